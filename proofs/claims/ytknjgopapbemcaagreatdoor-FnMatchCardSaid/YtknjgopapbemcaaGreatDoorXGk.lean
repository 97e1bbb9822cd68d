/- Gk: joined by merge.py for the claim. -/
import Derived.Test.YtknjgopapbemcaaGreatDoorXGg
import Derived.Test.YtknjgopapbemcaaGreatDoorXFfFg
import Derived.LaidEqlPtr
/- Walk of internal/strconv's atofHex. -/
namespace Go.Proofs.YtknjgopapbemcaaGreatDoor
open Go.RowKit
set_option linter.unusedVariables false
set_option linter.unusedSimpArgs false
theorem up_bits {m : Nat} : (m % 4 ||| m / 4 % 2) < 4 ∧ ((m % 4 ||| m / 4 % 2) = 3 ↔ urd m = m / 4 + 1) ∧ ((m % 4 ||| m / 4 % 2) ≠ 3 → urd m = m / 4) := by
  have h1 : m % 4 = 0 ∨ m % 4 = 1 ∨ m % 4 = 2 ∨ m % 4 = 3 := by omega
  have h2 : m / 4 % 2 = 0 ∨ m / 4 % 2 = 1 := by omega
  have hu : urd m = (m + 1 + m / 4 % 2) / 4 := rfl
  rcases h1 with h | h | h | h <;> rcases h2 with h' | h' <;> rw [hu, h, h'] <;> refine ⟨by decide, ?_, ?_⟩ <;> simp <;> omega
/-- Behind the first loop. -/
structure HxB (tr : Bool) (m0 : Nat) (e0 : Int) (R m : Nat) (x : Int) : Prop where
  big : m = 0 ∨ 18014398509481984 ≤ m
  same : tr = true → m = m0 ∧ x = e0 + 52
  val : tr = false → rg m (x - 52) = R
structure HxC (R A : Nat) (X : Int) : Prop where
  big : A = 0 ∨ 18014398509481984 ≤ A
  val : rg A (X - 52) = R
theorem and2047 {k : Nat} (h : k < 2048) : bits .and .i64 (k : Int) 2047 = (k : Int) := by
  have h : ∀ i : Fin 2048, bits .and .i64 ((i.val : Nat) : Int) 2047 = ((i.val : Nat) : Int) := by decide +kernel
  exact h ⟨k, by assumption⟩
theorem or_sgn {r : Nat} (h : r < 9223372036854775808) : bits .or .u64 (r : Int) 9223372036854775808 = ((9223372036854775808 + r : Nat) : Int) := by
  have e := u64_or_nat r 9223372036854775808 (by omega) (by omega)
  refine e.trans (congrArg _ ?_)
  have e2 := Nat.two_pow_add_eq_or_of_lt (i := 63) (b := r) h 1
  rw [show (2 : Nat) ^ 63 * 1 = 9223372036854775808 from rfl] at e2
  rw [Nat.or_comm, ← e2]
theorem A165 : (Tryz.prog.info? 165).map (·.size) = some 3 := by kernel_rfl
theorem ptr_other {w : World} (hG : Gl w) (n : Nat) : (binOp .eql 163 (.pointer (some ⟨11, 0, none⟩)) (.pointer (some ⟨9, 0, none⟩))).run Tryz.prog (w.drewN n) = .ok (.bool false) (w.drewN n) := by
  obtain ⟨ca, ta, h9⟩ := hG.g9
  obtain ⟨cb, tb, h11⟩ := hG.g11
  cases hq : Tryz.prog.info? 165 with
  | none => have := A165; rw [hq] at this; cases this
  | some j =>
    have hj : j.size = 3 := by have := A165; rw [hq] at this; simpa using this
    exact run_eql_ptr_other (w := w.drewN n) (a := ⟨11, 0, none⟩) (b := ⟨9, 0, none⟩) Tryz.underlying163 hq (by omega) (by intro h; cases h) h11 h9
theorem drew2 {w w1 : World} {a b : Nat} (h : w1 = w.drewN a) : ∃ n, w1.drewN b = w.drewN n := ⟨a + b, by rw [h]; simp [World.drewN, Nat.add_assoc]⟩
theorem drew3 {w w1 : World} {a b c : Nat} (h : w1 = w.drewN a) : ∃ n, (w1.drewN b).drewN c = w.drewN n := ⟨a + b + c, by rw [h]; simp [World.drewN, Nat.add_assoc]⟩
theorem fin_pos {x : Int} {R : Nat} (h : x = (R : Int)) : x.toNat = sgnB false + R := by rw [h, Int.toNat_natCast]; exact (Nat.zero_add R).symm
theorem fin_neg {x : Int} {R : Nat} (hR : R < 9223372036854775808) (h : x = (R : Int)) : (bits .or .u64 x 9223372036854775808).toNat = sgnB true + R := by
  rw [h, or_sgn hR, Int.toNat_natCast]; rfl
structure HxD (A m : Nat) (j : Nat) : Prop where
  eq : m = stk A (2 ^ j)
theorem stk_or {m A j : Nat} (h : m = stk A (2 ^ j)) : m / 2 ||| m % 2 = stk A (2 ^ (j + 1)) := by rw [h]; exact stk_next A j
theorem half_le {m : Nat} : m / 2 ≤ (m / 2 ||| m % 2) ∧ (m / 2 ||| m % 2) ≤ m / 2 + 1 := by
  rw [or_bit _ _ (by omega)]
  split <;> omega
set_option maxHeartbeats 2000000 in
set_option maxRecDepth 100000 in
theorem hex_any (s : ByteArray) (m0 : Nat) (e0 : Int) (neg tr : Bool) (w : World) (hG : Gl w) (hm0 : m0 < 18446744073709551616) (he1 : -200000 ≤ e0) (he2 : e0 ≤ 200000) (htr : tr = true → 18014398509481984 ≤ m0) :
    Calls Tryz.prog 92 #[.string s, .pointer (some ⟨11, 0, none⟩), .int .u64 (m0 : Int), .int .i64 e0, .bool neg, .bool tr] w fun e w' =>
      e = erv (sgnB neg + rg (if tr then m0 ||| 1 else m0) e0) (decide (rg (if tr then m0 ||| 1 else m0) e0 = infR)) ∧ ∃ n, w' = w.drewN n := by
  have hf0 := hG.fi0
  have hf1 := hG.fi1
  have hf2 := hG.fi2
  obtain ⟨R, hR⟩ : ∃ R, R = rg (if tr then m0 ||| 1 else m0) e0 := ⟨_, rfl⟩
  rw [← hR]
  have HR := Hd.mk hR
  clear hR
  have HTR := Hd.mk htr
  clear htr
  go_enter Tryz.func92, Tryz.ntmps92
  go_wp2
  go_quiet (fail)
  go_upto_block 0 with (fail)
  obtain ⟨w1, hw1⟩ : ∃ w1, w1 = w.drewN nq := ⟨_, rfl⟩
  have hc0 : w1.cell? ⟨11, 0, none⟩ = some (.int .u64 52) := by rw [hw1]; exact hf0
  have hc1 : w1.cell? ⟨11, 1, none⟩ = some (.int .u64 11) := by rw [hw1]; exact hf1
  have hc2 : w1.cell? ⟨11, 2, none⟩ = some (.int .i64 (-1023)) := by rw [hw1]; exact hf2
  rw [← hw1]
  have HPE : Hd (Gl w1) := ⟨by rw [hw1]; exact hG.drewN nq⟩
  have HW1 := Hd.mk hw1
  clear hw1 hf0 hf1 hf2
  go_cut [2, 3] from 42 to 57 (fun v2 v3 wc => ∃ (m : Nat) (x : Int), v2 = .int .u64 (m : Int) ∧ v3 = .int .i64 x ∧ m < 18446744073709551616 ∧ -300000 ≤ x ∧ x ≤ 300000 ∧ HxB tr m0 e0 R m x ∧ w1 = wc)
  case first => as_aux_lemma =>
    go_wp2_with fail
    go_loopg [2, 3] 64 (fun g v2 v3 wr => ∃ (m j : Nat) (x : Int), v2 = .int .u64 (m : Int) ∧ v3 = .int .i64 x ∧ Hd (m = m0 * 2 ^ j) ∧ x = e0 + 52 - j ∧ g + j = 64 ∧ (j = 0 ∨ m < 36028797018963968) ∧ m < 18446744073709551616 ∧ w1 = wr)
    case atStart => exact ⟨m0, 0, e0 + 52, rfl, rfl, ⟨by simp⟩, by omega, by omega, by omega, hm0, rfl⟩
    case round =>
      obtain ⟨m, j, x, rfl, rfl, HM, hx, hgj, hj, hm64, rfl⟩ := hrel
      have hxb : -300000 ≤ x ∧ x ≤ 300000 := by omega
      have HXJ := Hd.mk hx
      clear hx
      have hval : Hd (rg m (x - 52) = rg m0 e0) := ⟨by
        rw [HM.out, show x - 52 = e0 - j by rw [HXJ.out]; omega]; exact rg_scale m0 j e0⟩
      by_cases hm0' : m = 0
      · have hb0 : ((m : Int) != 0) = false := by rw [bne, beq_iff_eq.2 (show (m : Int) = 0 by omega)]; rfl
        have HB : Hd (HxB tr m0 e0 R m x) := ⟨⟨.inl hm0', fun h => by
          exfalso
          have h1 := HTR.out h
          have h2 : 0 < m0 * 2 ^ j := Nat.mul_pos (by omega) (Nat.two_pow_pos _)
          rw [← HM.out] at h2; omega, fun h => by rw [hval.out, HR.out, h]; rfl⟩⟩
        clear hm0'
        go_wp2_with fail
        go_meet
        case rel => exact ⟨m, x, rfl, rfl, hm64, hxb.1, hxb.2, HB.out, rfl⟩
      · have hb0 : ((m : Int) != 0) = true := by rw [bne, beq_eq_false_iff_ne.2 (show (m : Int) ≠ 0 by omega)]; rfl
        by_cases h54 : m < 18014398509481984
        · have hb1 : ((m : Int) / 18014398509481984 == 0) = true := beq_iff_eq.2 (by omega)
          have hj54 : j < 54 := by
            apply Nat.lt_of_not_le
            intro hle
            have h1 : 2 ^ 54 ≤ 2 ^ j := Nat.pow_le_pow_right (by omega) hle
            have h2 : 1 * 2 ^ j ≤ m0 * 2 ^ j := Nat.mul_le_mul_right _ (by
              rcases Nat.eq_zero_or_pos m0 with h | h
              · have := HM.out; rw [h, Nat.zero_mul] at this; omega
              · exact h)
            rw [← HM.out] at h2; omega
          obtain ⟨g, rfl⟩ : ∃ g, gk = g + 1 := ⟨gk - 1, by omega⟩
          go_wp2_with fail
          go_roundg g
          case measure => omega
          case rel => exact ⟨m * 2, j + 1, x - 1, by go_num, rfl, ⟨by rw [HM.out, Nat.pow_succ]; ac_rfl⟩, by have := HXJ.out; omega, by omega, by omega, by omega, rfl⟩
        · have hb1 : ((m : Int) / 18014398509481984 == 0) = false := beq_eq_false_iff_ne.2 (by omega)
          have HB : Hd (HxB tr m0 e0 R m x) := ⟨⟨.inr (by omega), fun h => by
            have h1 := HTR.out h
            have hj0 : j = 0 := by
              rcases hj with h2 | h2
              · exact h2
              · rcases Nat.eq_zero_or_pos j with h3 | h3
                · exact h3
                · exfalso
                  have h4 : 2 ^ 1 ≤ 2 ^ j := Nat.pow_le_pow_right (by omega) h3
                  have h5 : m0 * 2 ^ 1 ≤ m0 * 2 ^ j := Nat.mul_le_mul_left _ h4
                  rw [← HM.out] at h5; omega
            have h6 := HM.out
            have h7 := HXJ.out
            rw [hj0] at h6 h7
            exact ⟨by rw [h6]; simp, by omega⟩, fun h => by rw [hval.out, HR.out, h]; rfl⟩⟩
          go_wp2_with fail
          go_meet
          case rel => exact ⟨m, x, rfl, rfl, hm64, hxb.1, hxb.2, HB.out, rfl⟩
  case rest =>
    obtain ⟨m, x, rfl, rfl, hm64, hx1, hx2, HB0, rfl⟩ := hcut
    have HB := Hd.mk HB0
    clear HB0
    go_upto_if 58 with (fail)
    go_cut [2] from 58 to 60 (fun v2 wc => ∃ A : Nat, v2 = .int .u64 (A : Int) ∧ A < 18446744073709551616 ∧ HxC R A x ∧ w1 = wc)
    case first =>
      cases tr
      case true =>
        have hor := u64_or_nat m 1 hm64 (by omega)
        have hl := or_one_lt hm64
        obtain ⟨A, hA⟩ : ∃ A, A = m ||| 1 := ⟨_, rfl⟩
        rw [← hA] at hor hl
        have hor' : bits .or .u64 (m : Int) 1 = (A : Int) := hor
        have HC : Hd (HxC R A x) := ⟨by
          obtain ⟨h1, h2⟩ := HB.out.same rfl
          refine ⟨.inr ?_, ?_⟩
          · have := or_one_le m
            have h3 := HTR.out rfl
            rw [hA]; omega
          · rw [HR.out, hA, h1, h2, show e0 + 52 - 52 = e0 by omega]; rfl⟩
        clear hor hA
        go_wp2
        go_meet
        exact ⟨A, rfl, hl, HC.out, rfl⟩
      case false =>
        go_wp2
        go_meet
        exact ⟨m, rfl, hm64, ⟨HB.out.big, HB.out.val rfl⟩, rfl⟩
    case rest =>
      obtain ⟨A, rfl, hA64, HC0, rfl⟩ := hcut
      have HC := Hd.mk HC0
      clear HC0 HB hm64
      go_upto_block 2 with (fail)
      go_cut [2, 3] from 61 to 76 (fun v2 v3 wc => ∃ (m j : Nat), v2 = .int .u64 (m : Int) ∧ v3 = .int .i64 (x + j) ∧ HxD A m j ∧ m < 36028797018963968 ∧ (A = 0 ∨ 18014398509481984 ≤ m) ∧ j ≤ 64 ∧ w1 = wc)
      case first => as_aux_lemma =>
        go_wp2_with fail
        go_loopg [2, 3] 64 (fun g v2 v3 wr => ∃ (m j : Nat), v2 = .int .u64 (m : Int) ∧ v3 = .int .i64 (x + j) ∧ HxD A m j ∧ m < 18446744073709551616 ∧ (A = 0 ∨ 18014398509481984 ≤ m) ∧ g + j = 64 ∧ w1 = wr)
        case atStart => exact ⟨A, 0, rfl, by simp, ⟨by simp [stk_one]⟩, hA64, HC.out.big, rfl, rfl⟩
        case round =>
          obtain ⟨m, j, rfl, rfl, HD, hm64, hbig, hgj, rfl⟩ := hrel
          by_cases h55 : m < 36028797018963968
          · have hb : ((m : Int) / 36028797018963968 != 0) = false := by rw [bne, beq_iff_eq.2 (show (m : Int) / 36028797018963968 = 0 by omega)]; rfl
            go_wp2_with fail
            go_meet
            case rel => exact ⟨m, j, rfl, rfl, HD, h55, hbig, by omega, rfl⟩
          · have hb : ((m : Int) / 36028797018963968 != 0) = true := by rw [bne, beq_eq_false_iff_ne.2 (show (m : Int) / 36028797018963968 ≠ 0 by omega)]; rfl
            have hj := stk_down (A := A) (j := j) (by rw [← HD.eq]; omega) hA64
            obtain ⟨g, rfl⟩ : ∃ g, gk = g + 1 := ⟨gk - 1, by omega⟩
            obtain ⟨y, hy⟩ : ∃ y, y = m / 2 ||| m % 2 := ⟨_, rfl⟩
            have hor : bits .or .u64 ((m : Int) / 2) ((m : Int) % 2) = (y : Int) := by rw [hy]; exact u64_or_nat (m / 2) (m % 2) (by omega) (by omega)
            have hr : bits .and .u64 (m : Int) 1 = (m : Int) % 2 := (u64_and_nat m 1 (by omega) (by omega)).trans (by rw [Nat.and_one_is_mod]; rfl)
            have hl := half_le (m := m)
            rw [← hy] at hl
            have HY := Hd.mk hy
            clear hy
            go_wp2_with fail
            go_roundg g
            case measure => omega
            case rel => exact ⟨y, j + 1, rfl, by go_num, ⟨by rw [HY.out]; exact stk_or HD.eq⟩, by omega, .inr (by omega), by omega, rfl⟩
      case rest =>
        obtain ⟨m, j, rfl, rfl, HD0, hm55, hbig0, hj64, rfl⟩ := hcut
        have HBG := Hd.mk hbig0
        have HD1 := Hd.mk HD0
        clear hbig0 HD0
        go_upto_block 4 with (fail)
        go_cut [2, 3] from 77 to 91 (fun v2 v3 wc => ∃ (m k : Nat) (z : Int), v2 = .int .u64 (m : Int) ∧ v3 = .int .i64 z ∧ HxF R m z ∧ m < 36028797018963968 ∧ -400000 ≤ z ∧ z ≤ 400000 ∧ w1 = wc)
        case first => as_aux_lemma =>
          obtain ⟨G, hGx⟩ : ∃ G : Nat, G = 200 := ⟨_, rfl⟩
          go_wp2_with fail
          go_loopg [2, 3] G (fun g v2 v3 wr => ∃ (m k : Nat) (z : Int), v2 = .int .u64 (m : Int) ∧ v3 = .int .i64 z ∧ HxD A m k ∧ Hd (z = x + k) ∧ m < 36028797018963968 ∧ Hd (A = 0 ∨ 18014398509481984 ≤ m ∨ z ≤ -1024) ∧ g + k = G + j ∧ k ≤ 130 ∧ -300000 ≤ z ∧ z ≤ 300200 ∧ w1 = wr)
          case atStart => exact ⟨m, j, x + j, rfl, rfl, HD1.out, ⟨rfl⟩, hm55, ⟨HBG.out.elim .inl (fun h => .inr (.inl h))⟩, rfl, by omega, by omega, by omega, rfl⟩
          case round =>
            clear hm55 HBG HD1
            obtain ⟨m, k, z, rfl, rfl, HD, HZ, hm55, HL, hgk, hk, hz1, hz2, rfl⟩ := hrel
            have HFI : Hd ((m ≤ 1 ∨ -1024 ≤ z) → HxF R m z) := ⟨fun h => by
              have h1 := hex_fin (A := A) (X1 := x) (x := z) (j := k) (m := m) HD.eq HZ.out hm55 HL.out h
              rw [HC.out.val] at h1; exact h1⟩
            by_cases h1 : m ≤ 1
            · have hb : decide ((1 : Int) < (m : Int)) = false := decide_eq_false (by omega)
              go_wp2_with fail
              go_meet
              case rel => exact ⟨m, k, z, rfl, rfl, HFI.out (.inl h1), hm55, by omega, by omega, rfl⟩
            · have hb : decide ((1 : Int) < (m : Int)) = true := decide_eq_true (by omega)
              by_cases hzz : -1024 ≤ z
              · have hb2 : decide (z < (-1024 : Int)) = false := decide_eq_false (by omega)
                go_wp2_with fail
                go_meet
                case rel => exact ⟨m, k, z, rfl, rfl, HFI.out (.inr hzz), hm55, by omega, by omega, rfl⟩
              · have hb2 : decide (z < (-1024 : Int)) = true := decide_eq_true (by omega)
                have hk64 := stk_down (A := A) (j := k) (by rw [← HD.eq]; omega) hA64
                obtain ⟨g, rfl⟩ : ∃ g, gk = g + 1 := ⟨gk - 1, by omega⟩
                obtain ⟨y, hy⟩ : ∃ y, y = m / 2 ||| m % 2 := ⟨_, rfl⟩
                have hor : bits .or .u64 ((m : Int) / 2) ((m : Int) % 2) = (y : Int) := by rw [hy]; exact u64_or_nat (m / 2) (m % 2) (by omega) (by omega)
                have hr : bits .and .u64 (m : Int) 1 = (m : Int) % 2 := (u64_and_nat m 1 (by omega) (by omega)).trans (by rw [Nat.and_one_is_mod]; rfl)
                have hl := half_le (m := m)
                rw [← hy] at hl
                have HY := Hd.mk hy
                clear hy
                go_wp2_with fail
                go_roundg g
                case measure => omega
                case rel => exact ⟨y, k + 1, z + 1, rfl, rfl, ⟨by rw [HY.out]; exact stk_or HD.eq⟩, ⟨by rw [HZ.out]; omega⟩, by omega, ⟨.inr (.inr (by omega))⟩, by omega, by omega, by omega, by omega, rfl⟩
        case rest =>
          clear hm55 hj64 HBG HD1
          obtain ⟨m, _, z, rfl, rfl, HF0, hm55, hz1, hz2, rfl⟩ := hcut
          have HF := Hd.mk HF0
          clear HF0
          obtain ⟨hu4, hup1, hup2⟩ := up_bits (m := m)
          obtain ⟨rr, hrr⟩ : ∃ r, r = m % 4 ||| m / 4 % 2 := ⟨_, rfl⟩
          rw [← hrr] at hu4 hup1 hup2
          have h3 : bits .and .u64 (m : Int) 3 = (m : Int) % 4 := (u64_and_nat m 3 (by omega) (by omega)).trans (by
            have := Nat.and_two_pow_sub_one_eq_mod m 2
            rw [show (2 : Nat) ^ 2 - 1 = 3 from rfl, show (2 : Nat) ^ 2 = 4 from rfl] at this
            rw [this]; rfl)
          obtain ⟨q4, hq4⟩ : ∃ q, q = m / 4 := ⟨_, rfl⟩
          rw [← hq4] at hup1 hup2 hrr
          have hq4l : q4 < 9007199254740992 := by omega
          have e4 : (m : Int) / 4 = (q4 : Int) := by omega
          have h5 : bits .and .u64 (q4 : Int) 1 = (q4 : Int) % 2 := (u64_and_nat q4 1 (by omega) (by omega)).trans (by rw [Nat.and_one_is_mod]; rfl)
          have h6 : bits .or .u64 ((m : Int) % 4) ((q4 : Int) % 2) = (rr : Int) := by rw [hrr]; exact u64_or_nat (m % 4) (q4 % 2) (by omega) (by omega)
          have HUP := Hd.mk (And.intro hup1 hup2)
          clear hup1 hup2 hrr hq4
          go_upto_if 103 with (fail)
          go_cut [2, 3] from 102 to 117 (fun v2 v3 wc => ∃ (q : Nat) (z2 : Int), v2 = .int .u64 (q : Int) ∧ v3 = .int .i64 z2 ∧ Hd (q = (if urd m = 9007199254740992 then 4503599627370496 else urd m)) ∧ Hd (z2 = if urd m = 9007199254740992 then z + 3 else z + 2) ∧ q < 9007199254740992 ∧ -400000 ≤ z2 ∧ z2 ≤ 400100 ∧ w1 = wc)
          case first => as_aux_lemma =>
            by_cases hr3 : rr = 3
            · have hb : ((rr : Int) == 3) = true := beq_iff_eq.2 (by omega)
              have hud : Hd (urd m = q4 + 1) := ⟨HUP.out.1.1 hr3⟩
              by_cases hq5 : q4 + 1 = 9007199254740992
              · have hb2 : ((q4 : Int) + 1 == 9007199254740992) = true := beq_iff_eq.2 (by omega)
                have HQ5 := Hd.mk hq5
                have hq42 : q4 = 9007199254740991 := by omega
                clear hq5 hr3
                subst hq42
                go_wp2
                go_meet
                exact ⟨4503599627370496, z + 3, by go_num, by go_num, ⟨by rw [hud.out, if_pos rfl]⟩, ⟨by rw [hud.out, if_pos rfl]⟩, by omega, by omega, by omega, rfl⟩
              · have hb2 : ((q4 : Int) + 1 == 9007199254740992) = false := beq_eq_false_iff_ne.2 (by omega)
                go_wp2
                go_meet
                exact ⟨q4 + 1, z + 2, by go_num, rfl, ⟨by rw [hud.out, if_neg hq5]⟩, ⟨by rw [hud.out, if_neg hq5]⟩, by omega, by omega, by omega, rfl⟩
            · have hb : ((rr : Int) == 3) = false := beq_eq_false_iff_ne.2 (by omega)
              have hud : Hd (urd m = q4) := ⟨HUP.out.2 hr3⟩
              go_wp2
              go_meet
              exact ⟨q4, z + 2, rfl, rfl, ⟨by rw [hud.out, if_neg (by omega)]⟩, ⟨by rw [hud.out, if_neg (by omega)]⟩, by omega, by omega, by omega, rfl⟩
          case rest => as_aux_lemma =>
            clear h3 e4 h5 h6 hu4 HUP hq4l
            obtain ⟨q, z2, rfl, rfl, HQ, HZ2, hq53, hz3, hz4, rfl⟩ := hcut
            have HFF := Hd.mk HF.out
            by_cases hq52 : q < 4503599627370496
            · have hRq : Hd (R = q ∧ R ≠ infR) := ⟨by
                have h1 := HQ.out
                have hle := HFF.out.le
                have h2 : urd m < 4503599627370496 := by
                  by_cases h : urd m = 9007199254740992
                  · rw [if_pos h] at h1; omega
                  · rw [if_neg h] at h1; omega
                have h3 := HFF.out.lo h2
                have h4 : R = q := by rw [h1, if_neg (by omega), h3]
                have hII : infR = 9218868437227405312 := rfl
                exact ⟨h4, by rw [h4, hII]; omega⟩⟩
              have hb : ((q : Int) / 4503599627370496 == 0) = true := beq_iff_eq.2 (by omega)
              have hlow := u64_low52 hq52
              have hor := u64_or0 hq52
              clear HQ HZ2 HF HFF HC
              go_wp2_with fail
              go_quiet (fail)
              have hRl : R < 9223372036854775808 := by rw [HR.out]; exact Nat.lt_of_le_of_lt (rung_le _ _) infR_lt
              have hfb := fb2_run
              have hpe := fun n => ptr_other HPE.out n
              have hand : bits .and .i64 (0 : Int) 2047 = 0 := and2047 (k := 0) (by omega)
              have HOR : Hd (bits .or .u64 (q : Int) (0 * 4503599627370496) = (R : Int)) := ⟨by rw [Int.zero_mul, hor, hRq.out.1]⟩
              cases neg
              case false =>
                go_wp2_with fail
                go_ret2
                refine ⟨?_, drew2 HW1.out⟩
                rw [decide_eq_false hRq.out.2]
                exact erv_eq (b := false) (fin_pos (HOR.out))
              case true =>
                go_wp2_with fail
                go_quiet (fail)
                go_wp2_with fail
                go_ret2
                refine ⟨?_, by first | exact drew2 HW1.out | exact drew3 HW1.out⟩
                rw [decide_eq_false hRq.out.2]
                exact erv_eq (b := false) (fin_neg hRl (by rw [hRq.out.1]))
            · obtain ⟨hz1022, hRv⟩ : -1022 ≤ z2 ∧ R = min ((z2 + 1022).toNat * C + q) infR := by
                have h1 := HQ.out
                have h2 := HZ2.out
                have h3 : 4503599627370496 ≤ urd m := by
                  by_cases h : urd m = 9007199254740992
                  · omega
                  · rw [if_neg h] at h1; omega
                obtain ⟨h4, h5⟩ := HFF.out.hi h3
                by_cases h : urd m = 9007199254740992
                · rw [if_pos h] at h1 h2
                  refine ⟨by omega, ?_⟩
                  have hC : C = 4503599627370496 := C_two
                  rw [h5, h, h1, show (z2 + 1022).toNat = (z + 1024).toNat + 1 by omega]
                  have f3 : ∀ c t : Nat, c = 4503599627370496 → t * c + 9007199254740992 = (t + 1) * c + 4503599627370496 := fun c t hc => by rw [Nat.add_mul]; omega
                  rw [f3 C _ hC]
                · rw [if_neg h] at h1 h2
                  refine ⟨by omega, ?_⟩
                  rw [h5, h1, show (z2 + 1022).toNat = (z + 1024).toNat by omega]
              have hCC : C = 4503599627370496 := C_two
              have hII : infR = 9218868437227405312 := rfl
              have hRl : R < 9223372036854775808 := by rw [HR.out]; exact Nat.lt_of_le_of_lt (rung_le _ _) infR_lt
              have hfb := fb2_run
              have hpe := fun n => ptr_other HPE.out n
              have hb : ((q : Int) / 4503599627370496 == 0) = false := beq_eq_false_iff_ne.2 (by omega)
              by_cases hov : 1023 < z2
              · have hRi : Hd (R = infR) := ⟨by
                  rw [hRv]
                  apply Nat.min_eq_right
                  have : 2046 * C ≤ (z2 + 1022).toNat * C := Nat.mul_le_mul_right _ (by omega)
                  rw [hCC] at this ⊢; rw [hII]; omega⟩
                have hovb : decide ((1023 : Int) < z2) = true := decide_eq_true hov
                have hlow : bits .and .u64 4503599627370496 4503599627370495 = 0 := u64_low52' (n := 4503599627370496) (by omega) (by omega)
                have hand : bits .and .i64 (2047 : Int) 2047 = 2047 := and2047 (k := 2047) (by omega)
                have HOR : Hd (bits .or .u64 (0 : Int) (2047 * 4503599627370496) = (R : Int)) := ⟨by rw [hRi.out]; decide +kernel⟩
                clear HQ HZ2 HF HFF HC hRv hCC hII
                go_wp2_with fail
                go_quiet (fail)
                cases neg
                case false =>
                  go_wp2_with fail
                  go_ret2
                  refine ⟨?_, drew2 HW1.out⟩
                  rw [decide_eq_true hRi.out]
                  exact erv_eq (b := true) (fin_pos (HOR.out))
                case true =>
                  go_wp2_with fail
                  go_quiet (fail)
                  go_wp2_with fail
                  go_ret2
                  refine ⟨?_, by first | exact drew2 HW1.out | exact drew3 HW1.out⟩
                  rw [decide_eq_true hRi.out]
                  exact erv_eq (b := true) (fin_neg hRl (HOR.out))
              · obtain ⟨k, hk⟩ : ∃ k : Nat, z2 + 1023 = (k : Int) := ⟨(z2 + 1023).toNat, by omega⟩
                have hk2047 : k ≤ 2046 := by omega
                obtain ⟨r, hr⟩ : ∃ r, r = q - 4503599627370496 := ⟨_, rfl⟩
                have hR2 : R = k * 4503599627370496 + r ∧ R ≠ infR := by
                  have e1 : (z2 + 1022).toNat + 1 = k := by omega
                  have f3 : ∀ c x : Nat, c ≤ q → x * c + q = (x + 1) * c + (q - c) := fun c x hc => by rw [Nat.add_mul]; omega
                  have e2 := f3 4503599627370496 (z2 + 1022).toNat (by omega)
                  rw [e1, ← hr] at e2
                  rw [hCC, e2] at hRv
                  have hA : k * 4503599627370496 + r < 9218868437227405312 := by omega
                  generalize k * 4503599627370496 + r = A2 at hRv hA ⊢
                  rw [Nat.min_eq_left (by rw [hII]; omega)] at hRv
                  exact ⟨hRv, by rw [hRv, hII]; omega⟩
                have hovb : decide ((1023 : Int) < z2) = false := decide_eq_false hov
                have hlow := u64_low52' (n := q) (by omega) (by omega)
                rw [← hr] at hlow
                have hw : IntKind.i64.wrap (z2 - -1023) = (k : Int) := by rw [show z2 - -1023 = (k : Int) by omega, IntKind.wrap_i64]; omega
                have hand : bits .and .i64 (k : Int) 2047 = (k : Int) := and2047 (by omega)
                have HOR : Hd (bits .or .u64 (r : Int) ((k : Int) * 4503599627370496) = (R : Int)) := ⟨by
                  have h1 := or_exp false (r := r) (k := k) (by omega) (by omega)
                  have e0 : sgnB false = 0 := rfl
                  rw [e0, Nat.zero_add, Nat.zero_add, ← hR2.1] at h1
                  rw [← h1]; exact congrArg (bits .or .u64 (r : Int)) (by omega)⟩
                have HR2 := Hd.mk hR2.2
                have HOR2 : Hd (bits .or .u64 (r : Int) (IntKind.u64.wrap (IntKind.u64.wrap (bits .and .i64 (z2 + 1023) 2047) * 4503599627370496)) = (R : Int)) := ⟨by
                  have w1 : IntKind.u64.wrap (k : Int) = (k : Int) := by rw [IntKind.wrap_u64]; omega
                  have w2 : IntKind.u64.wrap ((k : Int) * 4503599627370496) = (k : Int) * 4503599627370496 := by rw [IntKind.wrap_u64]; omega
                  rw [hk, hand, w1, w2]; exact HOR.out⟩
                have hk0 : (0 : Int) ≤ (k : Int) := by omega
                have hk2048 : (k : Int) ≤ 2046 := by omega
                clear HQ HZ2 HF HFF HC hRv hCC hII hr hR2 hk
                go_wp2_with fail
                go_quiet (fail)
                cases neg
                case false =>
                  go_wp2_with fail
                  go_ret2
                  refine ⟨?_, drew2 HW1.out⟩
                  rw [decide_eq_false HR2.out]
                  exact erv_eq (b := false) (fin_pos (HOR2.out))
                case true =>
                  go_wp2_with fail
                  go_quiet (fail)
                  go_wp2_with fail
                  go_ret2
                  refine ⟨?_, by first | exact drew2 HW1.out | exact drew3 HW1.out⟩
                  rw [decide_eq_false HR2.out]
                  exact erv_eq (b := false) (fin_neg hRl (HOR2.out))
end Go.Proofs.YtknjgopapbemcaaGreatDoor
