/- Gb Gc: joined by merge.py for the claim. -/
import Derived.Test.YtknjgopapbemcaaGreatDoorXGa
import Derived.Test.YtknjgopapbemcaaGreatDoorXSh
import Derived.Test.YtknjgopapbemcaaGreatDoorXLgLh
import Derived.StillTailTactics
/- Walks of internal/strconv's uscale, round, unmin, pack64, parseFloat64. -/
namespace Go.Proofs.YtknjgopapbemcaaGreatDoor
open Go.RowKit
set_option linter.unusedVariables false
set_option linter.unusedSimpArgs false

theorem bitLenAux_spec : ∀ (f x : Nat), x < 2 ^ f → 0 < x → 1 ≤ Lib.bitLenAux f x ∧ Lib.bitLenAux f x ≤ f ∧ 2 ^ (Lib.bitLenAux f x - 1) ≤ x ∧ x < 2 ^ Lib.bitLenAux f x := by
  intro f
  induction f with
  | zero => intro x h h0; simp at h; omega
  | succ f ih =>
    intro x h h0
    rw [Lib.bitLenAux, if_neg (by omega)]
    by_cases h1 : x = 1
    · subst h1
      have : Lib.bitLenAux f 0 = 0 := by cases f <;> simp [Lib.bitLenAux]
      rw [show 1 / 2 = 0 by rfl, this]
      refine ⟨by omega, by omega, by decide, by decide⟩
    · obtain ⟨a, b, c, d⟩ := ih (x / 2) (by rw [Nat.pow_succ] at h; omega) (by omega)
      generalize Lib.bitLenAux f (x / 2) = z at *
      refine ⟨by omega, by omega, ?_, ?_⟩
      · obtain ⟨y, rfl⟩ : ∃ y, z = y + 1 := ⟨z - 1, by omega⟩
        rw [show 1 + (y + 1) - 1 = y + 1 by omega, Nat.pow_succ]
        rw [Nat.add_sub_cancel] at c
        omega
      · rw [Nat.add_comm, Nat.pow_succ]; omega
theorem bitLen_spec {x : Nat} (h : x < 18446744073709551616) (h0 : 0 < x) : 1 ≤ Lib.bitLen x ∧ Lib.bitLen x ≤ 64 ∧ 2 ^ (Lib.bitLen x - 1) ≤ x ∧ x < 2 ^ Lib.bitLen x :=
  bitLenAux_spec 64 x h h0

theorem mul64_any (x y : Nat) (hx : x < 18446744073709551616) (hy : y < 18446744073709551616) (w : World) : Calls Tryz.prog 124 #[.int .u64 (x : Int), .int .u64 (y : Int)] w fun e w' => e = .returned (.tuple #[.int .u64 ((x * y / 18446744073709551616 : Nat) : Int), .int .u64 ((x * y % 18446744073709551616 : Nat) : Int)]) ∧ w = w' :=
  (Tryz.bits_Mul64 x y hx hy w).mono fun _ _ h => ⟨h.1, h.2.symm⟩

theorem b2_q (b : Bool) (w : World) : Calls Tryz.prog 99 #[.bool b] w fun e w' => e = .returned (.int .u64 (b.toNat : Nat)) ∧ w' = w := (b2_any b w).mono fun _ _ h => ⟨h.1, h.2.symm⟩
theorem and63 {s : Nat} (h : s < 64) : bits .and .i64 (s : Int) 63 = (s : Int) := by
  have h : ∀ i : Fin 64, bits .and .i64 ((i.val : Nat) : Int) 63 = ((i.val : Nat) : Int) := by decide +kernel
  exact h ⟨s, by assumption⟩
set_option maxHeartbeats 1000000 in
set_option maxRecDepth 100000 in
theorem uscale_any (x hi0 lo0 Pn Pd s P g : Nat) (w : World) (hx63 : 9223372036854775808 ≤ x) (hx : x < 18446744073709551616) (hhi : hi0 < 18446744073709551616) (hlo : lo0 < 18446744073709551616) (hs8 : 8 ≤ s) (hs : s < 64)
    (hP : P = 2 ^ s) (HU : ∀ hi mid mid2, hi = x * hi0 / 18446744073709551616 → mid = x * hi0 % 18446744073709551616 → mid2 = x * lo0 / 18446744073709551616 → USc x hi0 lo0 Pn Pd s hi mid mid2)
    (hg : w.heap[g]? = some (.cells #[.int .u64 (hi0 : Int), .int .u64 (lo0 : Int), .int .i64 (s : Int)] 189 (0, 0))) :
    Calls Tryz.prog 115 #[.int .u64 (x : Int), .pointer (some ⟨g, 0, none⟩)] w fun e w' => e = .returned (.int .u64 ((stk (x * Pn) (2 ^ 128 * Pd * 2 ^ s) : Nat) : Int)) ∧ ∃ n, w' = w.drewN n := by
  have hc0 : w.cell? ⟨g, 0, none⟩ = some (.int .u64 (hi0 : Int)) := by simp [World.cell?, hg]
  have hc1 : w.cell? ⟨g, 1, none⟩ = some (.int .u64 (lo0 : Int)) := by simp [World.cell?, hg]
  have hc2 : w.cell? ⟨g, 2, none⟩ = some (.int .i64 (s : Int)) := by simp [World.cell?, hg]
  clear hg
  have HUU := Hd.mk (HU _ _ _ rfl rfl rfl)
  clear HU
  obtain ⟨T, hT⟩ : ∃ T, T = stk (x * Pn) (2 ^ 128 * Pd * 2 ^ s) := ⟨_, rfl⟩
  rw [← hT]
  have HT := Hd.mk hT
  clear hT
  have hp1 : x * hi0 / 18446744073709551616 < 18446744073709551616 := by
    rw [Nat.div_lt_iff_lt_mul (by omega)]
    exact Nat.mul_lt_mul'' hx hhi
  have hp2 : x * hi0 % 18446744073709551616 < 18446744073709551616 := Nat.mod_lt _ (by omega)
  have hp3 : x * lo0 / 18446744073709551616 < 18446744073709551616 := by
    rw [Nat.div_lt_iff_lt_mul (by omega)]
    exact Nat.mul_lt_mul'' hx hlo
  have HM := fun w => mul64_any x hi0 hx hhi w
  have HM2 := fun w => mul64_any x lo0 hx hlo w
  generalize x * hi0 / 18446744073709551616 = hi at *
  generalize x * hi0 % 18446744073709551616 = mid at *
  generalize x * lo0 / 18446744073709551616 = mid2 at *
  have HMM := Hd.mk HM
  have HMM2 := Hd.mk HM2
  clear HM HM2
  have hand := and63 hs
  obtain ⟨q, hq⟩ : ∃ q, q = hi / P := ⟨_, rfl⟩
  have hPp : 0 < P := by rw [hP]; exact Nat.two_pow_pos _
  have hPc : ((2 : Int) ^ s) = (P : Int) := by rw [hP]; exact (Int.natCast_pow 2 s).symm
  have hql : q * P ≤ hi := by rw [hq]; exact Nat.div_mul_le_self hi P
  obtain ⟨z, hz⟩ : ∃ z, z = q * P := ⟨_, rfl⟩
  have e1 : (hi : Int) / 2 ^ s = (q : Int) := by rw [hPc, hq]; exact (Int.natCast_ediv hi P).symm
  have e2 : (q : Int) * 2 ^ s = (z : Int) := by
    rw [hPc, hz]; exact (Int.natCast_mul q P).symm
  have hmod : hi % P = hi - z := by rw [hz, hq, Nat.mod_eq_sub_mul_div, Nat.mul_comm]
  have HQ := Hd.mk (And.intro hq (And.intro hz hmod))
  have hq64 : q < 18446744073709551616 := Nat.lt_of_le_of_lt (by rw [hq]; exact Nat.div_le_self _ _) hp1
  have HE3 := Hd.mk hPc
  have hzl : z ≤ hi := by rw [hz]; exact hql
  clear hq hmod hPc hz hql
  by_cases hA : z = hi
  · have hAb : ((z : Int) != (hi : Int)) = false := by simp; omega
    have HA0 : Hd (hi % 2 ^ s = 0) := ⟨by rw [← hP, HQ.out.2.2]; omega⟩
    have HAA := Hd.mk hA
    clear hA
    by_cases hB : mid < mid2
    · obtain ⟨h1, h2, h3⟩ := HUU.out.b1 HA0.out hB
      obtain ⟨q1, hq1⟩ : ∃ q1, q1 = (hi - 1) / P := ⟨_, rfl⟩
      have e3 : ((hi : Int) - 1) / 2 ^ s = (q1 : Int) := by
        rw [HE3.out, hq1, show ((hi : Int) - 1) = ((hi - 1 : Nat) : Int) by omega]; exact (Int.natCast_ediv _ P).symm
      have hq164 : q1 < 18446744073709551616 := Nat.lt_of_le_of_lt (by rw [hq1]; exact Nat.div_le_self _ _) (by omega)
      have hor := u64_or_nat q1 1 hq164 (by omega)
      have hT1 : q1 ||| 1 = T := by rw [hq1, hP, HT.out]; exact h3
      rw [hT1] at hor
      have hBb : decide ((mid : Int) < (mid2 : Int)) = true := decide_eq_true (by omega)
      have hw : IntKind.u64.wrap ((mid : Int) - (mid2 : Int)) = ((mid + 18446744073709551616 - mid2 : Nat) : Int) := by rw [IntKind.wrap_u64]; omega
      have hgt : decide ((1 : Int) < ((mid + 18446744073709551616 - mid2 : Nat) : Int)) = true := decide_eq_true (by omega)
      have H3 := Hd.mk (And.intro h3 hq1)
      have HPP := Hd.mk hP
      clear h3 hq1 hT1 hP
      go_enter Tryz.func115, Tryz.ntmps115
      go_upto_region 7 with (first | (go_at_call 124; (first | ((with_reducible refine (HMM.out _).mono ?_); rintro e w' ⟨rfl, rfl⟩) | ((with_reducible refine (HMM2.out _).mono ?_); rintro e w' ⟨rfl, rfl⟩))) | (go_at_call 99; ((with_reducible refine (b2_any true _).mono ?_); rintro e w' ⟨rfl, rfl⟩)))
      go_quiet ((go_at_call 99; exact Calls.quiet_of_same (b2_q true _)))
      go_wp2
      go_ret
      exact ⟨ret_i hor, nq, rfl⟩
    · have hBb : decide ((mid : Int) < (mid2 : Int)) = false := decide_eq_false (by omega)
      have hw : IntKind.u64.wrap ((mid : Int) - (mid2 : Int)) = ((mid - mid2 : Nat) : Int) := by rw [IntKind.wrap_u64]; omega
      have hw2 : IntKind.u64.wrap (hi : Int) = (hi : Int) := by rw [IntKind.wrap_u64]; omega
      by_cases hC : mid2 + 2 ≤ mid
      · have h3 := HUU.out.b2 HA0.out hC
        have hT1 : q ||| 1 = T := by rw [HQ.out.1, hP, HT.out]; exact h3
        have hor := u64_or_nat q 1 hq64 (by omega)
        rw [hT1] at hor
        have hgt : decide ((1 : Int) < ((mid - mid2 : Nat) : Int)) = true := decide_eq_true (by omega)
        have HPP := Hd.mk hP
        clear h3 hT1 hP
        go_enter Tryz.func115, Tryz.ntmps115
        go_upto_region 7 with (first | (go_at_call 124; (first | ((with_reducible refine (HMM.out _).mono ?_); rintro e w' ⟨rfl, rfl⟩) | ((with_reducible refine (HMM2.out _).mono ?_); rintro e w' ⟨rfl, rfl⟩))) | (go_at_call 99; ((with_reducible refine (b2_any false _).mono ?_); rintro e w' ⟨rfl, rfl⟩)))
        go_quiet ((go_at_call 99; exact Calls.quiet_of_same (b2_q true _)))
        go_wp2
        go_ret
        exact ⟨ret_i hor, nq, rfl⟩
      · have h3 := HUU.out.b3 HA0.out (by omega) (by omega)
        have hT1 : q = T := by rw [HQ.out.1, hP, HT.out]; exact h3
        have hor := u64_or_nat q 0 hq64 (by omega)
        rw [Nat.or_zero] at hor
        have hgt : decide ((1 : Int) < ((mid - mid2 : Nat) : Int)) = false := decide_eq_false (by omega)
        have HPP := Hd.mk hP
        have HT1 := Hd.mk hT1
        clear h3 hT1 hP
        go_enter Tryz.func115, Tryz.ntmps115
        go_upto_region 7 with (first | (go_at_call 124; (first | ((with_reducible refine (HMM.out _).mono ?_); rintro e w' ⟨rfl, rfl⟩) | ((with_reducible refine (HMM2.out _).mono ?_); rintro e w' ⟨rfl, rfl⟩))) | (go_at_call 99; ((with_reducible refine (b2_any false _).mono ?_); rintro e w' ⟨rfl, rfl⟩)))
        go_quiet ((go_at_call 99; exact Calls.quiet_of_same (b2_q false _)))
        go_wp2
        go_ret
        exact ⟨ret_i (hor.trans (by rw [HT1.out])), nq, rfl⟩
  · have hAb : ((z : Int) != (hi : Int)) = true := by simp; omega
    have HA0 : Hd (hi % 2 ^ s ≠ 0) := ⟨by rw [← hP, HQ.out.2.2]; omega⟩
    have h3 := HUU.out.a HA0.out
    have hT1 : q ||| 1 = T := by rw [HQ.out.1, hP, HT.out]; exact h3
    have hor := u64_or_nat q 1 hq64 (by omega)
    rw [hT1] at hor
    have HPP := Hd.mk hP
    clear h3 hT1 hP hA
    go_enter Tryz.func115, Tryz.ntmps115
    go_wp2_with (go_at_call 124; ((with_reducible refine (HMM.out _).mono ?_); rintro e w' ⟨rfl, rfl⟩))
    go_ret
    exact ⟨ret_i hor, 0, rfl⟩
end Go.Proofs.YtknjgopapbemcaaGreatDoor
/- Walks of internal/strconv's round, unmin, bool2, log2Pow10, pack64. -/
namespace Go.Proofs.YtknjgopapbemcaaGreatDoor
open Go.RowKit
set_option linter.unusedVariables false
set_option linter.unusedSimpArgs false

theorem split_and (i a b c d : Nat) (hb : b < 2 ^ i) (hd : d < 2 ^ i) : (2 ^ i * a + b) &&& (2 ^ i * c + d) = 2 ^ i * (a &&& c) + (b &&& d) := by
  apply Nat.eq_of_testBit_eq
  intro j
  have hbd : b &&& d < 2 ^ i := Nat.and_lt_two_pow _ hd
  rw [Nat.testBit_and, Nat.testBit_two_pow_mul_add a hb, Nat.testBit_two_pow_mul_add c hd, Nat.testBit_two_pow_mul_add (a &&& c) hbd]
  split
  · rw [Nat.testBit_and]
  · rw [Nat.testBit_and]
theorem split_and52 (a b c d : Nat) (hb : b < 4503599627370496) (hd : d < 4503599627370496) : (4503599627370496 * a + b) &&& (4503599627370496 * c + d) = 4503599627370496 * (a &&& c) + (b &&& d) := split_and 52 a b c d hb hd

theorem sg_parts (b : Bool) {m : Nat} (hm : m < 9007199254740992) : sgnB b + m = 4503599627370496 * (2048 * b.toNat + m / 4503599627370496) + m % 4503599627370496 := by
  cases b
  · show 0 + m = 4503599627370496 * (2048 * 0 + m / 4503599627370496) + m % 4503599627370496; omega
  · show 9223372036854775808 + m = 4503599627370496 * (2048 * 1 + m / 4503599627370496) + m % 4503599627370496; omega
theorem sg_lt (b : Bool) {m : Nat} (hm : m < 9007199254740992) : sgnB b + m < 18446744073709551616 := by
  cases b
  · show 0 + m < _; omega
  · show 9223372036854775808 + m < _; omega
theorem pk_test (b : Bool) {m : Nat} (hm : m < 9007199254740992) : bits .and .u64 ((sgnB b + m : Nat) : Int) 4503599627370496 = ((4503599627370496 * (m / 4503599627370496) : Nat) : Int) := by
  have e := u64_and_nat (sgnB b + m) 4503599627370496 (sg_lt b hm) (by omega)
  refine e.trans (congrArg _ ?_)
  rw [sg_parts b hm]
  have e2 := split_and52 (2048 * b.toNat + m / 4503599627370496) (m % 4503599627370496) 1 0 (Nat.mod_lt _ (by omega)) (by omega)
  rw [Nat.mul_one, Nat.add_zero] at e2
  rw [e2, Nat.and_zero, Nat.add_zero]
  congr 1
  have h1 : m / 4503599627370496 = 0 ∨ m / 4503599627370496 = 1 := by omega
  rcases h1 with h | h <;> rw [h] <;> cases b <;> rfl
theorem pk_sign (b : Bool) {m : Nat} (hm : m < 9007199254740992) : bits .and .u64 ((sgnB b + m : Nat) : Int) 9223372036854775808 = ((sgnB b : Nat) : Int) := by
  have e := u64_and_nat (sgnB b + m) 9223372036854775808 (sg_lt b hm) (by omega)
  refine e.trans (congrArg _ ?_)
  rw [sg_parts b hm]
  have e2 := split_and52 (2048 * b.toNat + m / 4503599627370496) (m % 4503599627370496) 2048 0 (Nat.mod_lt _ (by omega)) (by omega)
  rw [Nat.add_zero] at e2
  refine e2.trans ?_
  rw [Nat.and_zero, Nat.add_zero]
  have h1 : m / 4503599627370496 = 0 ∨ m / 4503599627370496 = 1 := by omega
  rcases h1 with h | h <;> rw [h] <;> cases b <;> rfl
theorem pk_clear (b : Bool) {m : Nat} (h : 4503599627370496 ≤ m) (hm : m < 9007199254740992) : bits .andNot .u64 ((sgnB b + m : Nat) : Int) 4503599627370496 = ((sgnB b + (m - 4503599627370496) : Nat) : Int) := by
  have e := u64_andNot_nat (sgnB b + m) 4503599627370496 (sg_lt b hm) (by omega)
  refine e.trans (congrArg _ ?_)
  rw [sg_parts b hm]
  have e2 := split_and52 (2048 * b.toNat + m / 4503599627370496) (m % 4503599627370496) 4094 4503599627370495 (Nat.mod_lt _ (by omega)) (by omega)
  refine e2.trans ?_
  have e3 : m % 4503599627370496 &&& 4503599627370495 = m % 4503599627370496 := by
    have := Nat.and_two_pow_sub_one_eq_mod (m % 4503599627370496) 52
    rw [show (2 : Nat) ^ 52 - 1 = 4503599627370495 by rfl, show (2 : Nat) ^ 52 = 4503599627370496 by rfl] at this
    rw [this]; omega
  rw [e3]
  have h1 : m / 4503599627370496 = 1 := by omega
  have h2 : m % 4503599627370496 = m - 4503599627370496 := by omega
  rw [h1, h2]
  cases b
  · rfl
  · have e0 : sgnB true = 9223372036854775808 := rfl
    have e9 : (2048 * true.toNat + 1 &&& 4094) = 2048 := rfl
    have e8 : ∀ x : Nat, 4503599627370496 * 2048 + x = 9223372036854775808 + x := fun x => by omega
    rw [e0, e9, e8]
theorem or_exp (b : Bool) {r k : Nat} (hr : r < 4503599627370496) (hk : k < 2048) : bits .or .u64 ((sgnB b + r : Nat) : Int) ((k * 4503599627370496 : Nat) : Int) = ((sgnB b + (k * 4503599627370496 + r) : Nat) : Int) := by
  have e := u64_or_nat (sgnB b + r) (k * 4503599627370496) (sg_lt b (by omega)) (by omega)
  refine e.trans (congrArg _ ?_)
  have e1 : r ||| k * 4503599627370496 = k * 4503599627370496 + r := by
    have e2 := Nat.two_pow_add_eq_or_of_lt (i := 52) (b := r) hr k
    rw [show (2 : Nat) ^ 52 = 4503599627370496 from rfl] at e2
    rw [Nat.or_comm, Nat.mul_comm k, ← e2]
  cases b
  · have e0 : sgnB false = 0 := rfl
    rw [e0, Nat.zero_add r, Nat.zero_add (k * 4503599627370496 + r), e1]
  · have e0 : sgnB true = 9223372036854775808 := rfl
    rw [e0]
    have e3 := fun x (hx : x < 2 ^ 63) => Nat.two_pow_add_eq_or_of_lt (i := 63) (b := x) hx 1
    rw [show (2 : Nat) ^ 63 * 1 = 9223372036854775808 from rfl] at e3
    rw [e3 r (by omega), Nat.or_assoc, e1, ← e3 _ (by omega)]

theorem fb2_name : (Tryz.f100.name == "runtime.NumGoroutine") = false := by kernel_rfl
theorem fb2_body : Tryz.f100.body.isNone = true := by kernel_rfl
theorem fb2_next : Extern.findNext Tryz.f100 = none := by kernel_rfl
theorem fb2_run (n : Int) (w : World) : (callFunc 100 #[.int .u64 n]).run Tryz.prog w = .ok (.value (.float .f64 n.toNat)) w := by
  have fb2_find : Extern.find Tryz.f100 = some Extern.MathFloatBits.float64frombits := by kernel_rfl
  rw [run_callFunc_extern Tryz.func100 fb2_name fb2_body fb2_next fb2_find]; rfl

theorem round_any (u : Nat) (w : World) (hu : u < 9223372036854775808) : Calls Tryz.prog 119 #[.int .u64 (u : Int)] w fun e w' => e = .returned (.int .u64 ((urd u : Nat) : Int)) ∧ w = w' := by
  obtain ⟨q, hq⟩ : ∃ q, q = u / 4 := ⟨_, rfl⟩
  have e1 : (u : Int) / 4 = (q : Int) := by omega
  have e2 := u64_and_nat q 1 (by omega) (by omega)
  rw [Nat.and_one_is_mod] at e2
  obtain ⟨p, hp⟩ : ∃ p, p = q % 2 := ⟨_, rfl⟩
  rw [← hp] at e2
  have hp1 : p ≤ 1 := by omega
  have e3 : bits .and .u64 (q : Int) 1 = (p : Int) := e2
  have H := Hd.mk (And.intro hq hp)
  clear e2 hq hp
  go_enter Tryz.func119, Tryz.ntmps119
  go_wp2
  go_ret
  refine ⟨ret_i ?_, rfl⟩
  have := H.out
  unfold urd
  omega
theorem unmin_any (w : World) : Calls Tryz.prog 117 #[.int .u64 9007199254740992] w fun e w' => e = .returned (.int .u64 36028797018963966) ∧ w = w' := by
  go_enter Tryz.func117, Tryz.ntmps117
  go_wp2
  go_ret
  exact ⟨rfl, rfl⟩
theorem b3_any (b : Bool) (w : World) : Calls Tryz.prog 116 #[.bool b] w fun e w' => e = .returned (.int .i64 (b.toNat : Nat)) ∧ w = w' := by
  cases b <;> go_enter Tryz.func116, Tryz.ntmps116 <;> go_wp2 <;> go_ret <;> exact ⟨rfl, rfl⟩
theorem lgp_any (p : Int) (w : World) (h1 : -2000 ≤ p) (h2 : p ≤ 2000) : Calls Tryz.prog 113 #[.int .i64 p] w fun e w' => e = .returned (.int .i64 (lgp p)) ∧ w = w' := by
  go_enter Tryz.func113, Tryz.ntmps113
  go_wp2
  go_ret
  exact ⟨rfl, rfl⟩
/-- What a reader of floats answers inside: a float, with an error's number (0: none). -/
def erv (x : Nat) (bad : Bool) : Ending := .returned (.tuple #[.float .f64 x, if bad then .iface 115 (.int .i64 1) else .nilIface])
theorem erv_eq {x y : Nat} {b : Bool} (h : x = y) : Ending.returned (.tuple #[.float .f64 x, if b then .iface 115 (.int .i64 1) else .nilIface]) = erv y b := by rw [h]; rfl
set_option maxHeartbeats 1000000 in
theorem pack_any (b : Bool) (m : Nat) (e : Int) (w : World) (hm : m < 9007199254740992) (he1 : -1074 ≤ e) (he2 : e ≤ 3000) (hlo : e = -1074 ∨ 4503599627370496 ≤ m) :
    Calls Tryz.prog 122 #[.int .u64 ((sgnB b + m : Nat) : Int), .int .i64 e] w fun r w' => r = erv (sgnB b + min ((e + 1074).toNat * C + m) infR) (decide (min ((e + 1074).toNat * C + m) infR = infR)) ∧ w = w' := by
  have hfb := fb2_run
  have h1 := pk_test b hm
  have h2 := pk_sign b hm
  have hCC : C = 4503599627370496 := C_two
  have hII : infR = 9218868437227405312 := rfl
  have hsl := sg_lt b hm
  obtain ⟨R, hR⟩ : ∃ R, R = min ((e + 1074).toNat * C + m) infR := ⟨_, rfl⟩
  rw [← hR]
  obtain ⟨M, hM⟩ : ∃ M, M = sgnB b + m := ⟨_, rfl⟩
  rw [← hM] at h1 h2 hsl ⊢
  by_cases h52 : 4503599627370496 ≤ m
  · have h3 := pk_clear b h52 hm
    rw [← hM] at h3
    have hd1 : m / 4503599627370496 = 1 := by omega
    rw [hd1] at h1
    have h1' : bits .and .u64 (M : Int) 4503599627370496 = 4503599627370496 := h1
    by_cases hbig : 972 ≤ e
    · have hRi : R = infR := by
        rw [hR]
        apply Nat.min_eq_right
        have : 2046 * C ≤ (e + 1074).toNat * C := Nat.mul_le_mul_right _ (by omega)
        rw [hCC] at this ⊢; rw [hII]; omega
      have hor := or_exp b (r := 0) (k := 2047) (by omega) (by omega)
      rw [Nat.add_zero, Nat.add_zero] at hor
      obtain ⟨Z, hZ⟩ : ∃ Z, Z = sgnB b + 2047 * 4503599627370496 := ⟨_, rfl⟩
      rw [← hZ] at hor
      obtain ⟨sb, hsb⟩ : ∃ s, s = sgnB b := ⟨_, rfl⟩
      rw [← hsb] at h2 hor
      have hor' : bits .or .u64 (sb : Int) 9218868437227405312 = (Z : Int) := hor
      have hbg : decide ((972 : Int) ≤ e) = true := decide_eq_true hbig
      have HZ := Hd.mk (And.intro hZ (And.intro hsb hRi))
      clear hor hZ hsb hM hRi hR hCC hII hd1 h3 h1
      go_enter Tryz.func122, Tryz.ntmps122
      go_wp2
      go_ret2
      refine ⟨?_, rfl⟩
      rw [HZ.out.2.2, decide_eq_true rfl]
      exact erv_eq (b := true) HZ.out.1
    · obtain ⟨k, hk⟩ : ∃ k : Nat, (k : Int) = 1075 + e := ⟨(1075 + e).toNat, by omega⟩
      have hk1 : k ≤ 2046 := by omega
      have hRi : R = k * 4503599627370496 + (m - 4503599627370496) ∧ R ≠ infR := by
        have e1 : (e + 1074).toNat + 1 = k := by omega
        have e2 : (e + 1074).toNat * 4503599627370496 + m = k * 4503599627370496 + (m - 4503599627370496) := by
          have f3 : ∀ c x : Nat, c ≤ m → x * c + m = (x + 1) * c + (m - c) := fun c x hc => by rw [Nat.add_mul]; omega
          rw [← e1]
          exact f3 4503599627370496 _ h52
        rw [hCC, e2] at hR
        have hA : k * 4503599627370496 + (m - 4503599627370496) < 9218868437227405312 := by omega
        generalize k * 4503599627370496 + (m - 4503599627370496) = A at hR hA ⊢
        rw [Nat.min_eq_left (by rw [hII]; omega)] at hR
        exact ⟨hR, by rw [hR, hII]; omega⟩
      have hor := or_exp b (r := m - 4503599627370496) (k := k) (by omega) (by omega)
      rw [← hRi.1] at hor
      obtain ⟨r, hr⟩ : ∃ r, r = sgnB b + (m - 4503599627370496) := ⟨_, rfl⟩
      rw [← hr] at h3 hor
      obtain ⟨Z, hZ⟩ : ∃ Z, Z = sgnB b + R := ⟨_, rfl⟩
      rw [← hZ] at hor
      have hor' : bits .or .u64 (r : Int) ((k : Int) * 4503599627370496) = (Z : Int) := by rw [← hor]; exact congrArg (bits .or .u64 (r : Int)) (by omega)
      have hbg : decide ((972 : Int) ≤ e) = false := decide_eq_false hbig
      have HZ := Hd.mk (And.intro hZ hRi.2)
      have hke : 1075 + e = (k : Int) := hk.symm
      clear hor hZ hr hM hRi hR hCC hII hd1 h1 h2 hk
      go_enter Tryz.func122, Tryz.ntmps122
      go_wp2
      go_ret2
      refine ⟨?_, rfl⟩
      rw [decide_eq_false HZ.out.2]
      exact erv_eq (b := false) HZ.out.1
  · have hd1 : m / 4503599627370496 = 0 := by omega
    rw [hd1] at h1
    have h1' : bits .and .u64 (M : Int) 4503599627370496 = 0 := h1
    have hRi : R = m ∧ R ≠ infR := by
      have e1 : (e + 1074).toNat = 0 := by omega
      rw [e1, Nat.zero_mul, Nat.zero_add] at hR
      rw [hR, hII]; omega
    have HZ := Hd.mk (And.intro hM hRi)
    clear hRi hR hCC hII hd1 h1 h2 hM
    go_enter Tryz.func122, Tryz.ntmps122
    go_wp2
    go_ret2
    refine ⟨?_, rfl⟩
    rw [decide_eq_false HZ.out.2.2]
    exact erv_eq (b := false) (by rw [HZ.out.2.1]; exact HZ.out.1)
end Go.Proofs.YtknjgopapbemcaaGreatDoor
