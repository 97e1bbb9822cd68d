/- Ff Fg: joined by merge.py for the claim. -/
import Derived.Test.YtknjgopapbemcaaGreatDoorXFaFd
import Derived.Test.YtknjgopapbemcaaGreatDoorXMgMh
import Derived.KernelRfl
/- Floats in plain numbers: how they stand to each other; whole numbers and powers of ten that are floats. -/
namespace Go.Proofs.YtknjgopapbemcaaGreatDoor
set_option linter.unusedVariables false
set_option linter.unusedSimpArgs false

theorem vl_lo {r : Nat} (h : r < C) : vl r = r := by unfold vl mg pl; rw [if_pos h, if_pos h]; simp
theorem vl_hi {r : Nat} (h : C ≤ r) : vl r = (C + r % C) * 2 ^ (r / C - 1) := by unfold vl mg pl; rw [if_neg (by omega), if_neg (by omega)]
theorem vl_mono {a b : Nat} (h : a ≤ b) : vl a ≤ vl b := by
  have hC := C_pos
  by_cases hb : b < C
  · rw [vl_lo hb, vl_lo (by omega)]; exact h
  · have hb1 : C ≤ b := by omega
    rw [vl_hi hb1]
    have hbq : 1 ≤ b / C := by rw [Nat.le_div_iff_mul_le hC]; omega
    by_cases ha : a < C
    · rw [vl_lo ha]
      have h1 : 1 ≤ 2 ^ (b / C - 1) := Nat.two_pow_pos _
      have h2 : (C + b % C) * 1 ≤ (C + b % C) * 2 ^ (b / C - 1) := Nat.mul_le_mul_left _ h1
      omega
    · have ha1 : C ≤ a := by omega
      rw [vl_hi ha1]
      have haq : 1 ≤ a / C := by rw [Nat.le_div_iff_mul_le hC]; omega
      have hq : a / C ≤ b / C := Nat.div_le_div_right h
      rcases Nat.lt_or_ge (a / C) (b / C) with hlt | hge
      · have h1 : a % C < C := Nat.mod_lt _ hC
        have h2 : (C + a % C) * 2 ^ (a / C - 1) ≤ (C * 2) * 2 ^ (a / C - 1) := Nat.mul_le_mul_right _ (by omega)
        have h3 : C * 2 * 2 ^ (a / C - 1) = C * 2 ^ (a / C) := by rw [Nat.mul_assoc, ← Nat.pow_succ']; congr 2; omega
        have h4 : C * 2 ^ (a / C) ≤ C * 2 ^ (b / C - 1) := Nat.mul_le_mul_left _ (two_pow_le (by omega))
        have h5 : C * 2 ^ (b / C - 1) ≤ (C + b % C) * 2 ^ (b / C - 1) := Nat.mul_le_mul_right _ (by omega)
        omega
      · have he : a / C = b / C := by omega
        rw [he]
        have h1 := Nat.div_add_mod a C
        have h2 := Nat.div_add_mod b C
        rw [he] at h1
        exact Nat.mul_le_mul_right _ (by omega)

theorem rung_fin {N M k : Nat} (hM : 0 < M) (hk : k ≤ 1000) (h : N < 2 ^ k * M) : rung N M < infR := by
  have hs := plc_spec N M hM
  have hp : plc N M ≤ 2030 := by
    rcases hs.2 with h0 | h0
    · omega
    · apply Nat.le_of_not_lt
      intro hlt
      have e1 : C * (M * 2 ^ plc N M) = M * 2 ^ (52 + plc N M) := by rw [C_pow]; ac_rfl
      rw [e1, S_eq] at h0
      have hkS := kS_eq
      generalize kS = K at *
      have h1 : N * 2 ^ K < 2 ^ k * M * 2 ^ K := Nat.mul_lt_mul_of_pos_right h (Nat.two_pow_pos _)
      have e2 : 2 ^ k * M * 2 ^ K = M * 2 ^ (k + K) := by rw [Nat.pow_add]; ac_rfl
      rw [e2] at h1
      have h2 : M * 2 ^ (52 + plc N M) < M * 2 ^ (k + K) := Nat.lt_of_le_of_lt h0 h1
      have h3 : M * 2 ^ (k + K) ≤ M * 2 ^ (52 + plc N M) := Nat.mul_le_mul_left _ (two_pow_le (by omega))
      omega
  have h1 : rne (N * S) (M * 2 ^ plc N M) ≤ D := by
    have := rne_hi (N * S) (M * 2 ^ plc N M)
    have h2 : N * S / (M * 2 ^ plc N M) < D := by
      rw [Nat.div_lt_iff_lt_mul (Nat.mul_pos hM (Nat.two_pow_pos _))]; exact hs.1
    omega
  have h2 : rung N M ≤ plc N M * C + rne (N * S) (M * 2 ^ plc N M) := Nat.min_le_left _ _
  have h3 : plc N M * C ≤ 2030 * C := Nat.mul_le_mul_right _ hp
  have hD := D_eq
  have hI : infR = 2047 * C := rfl
  have hC := C_pos
  omega

/-- How two floats stand. -/
theorem cmp_scale (a b : Int) {k : Nat} (hk : 0 < k) : compare (a * k) (b * k) = compare a b := by
  have e1 : (a * k < b * k) ↔ a < b := ⟨fun h => Int.lt_of_mul_lt_mul_right h (by omega), fun h => Int.mul_lt_mul_of_pos_right h (by omega)⟩
  have e2 : (a * k = b * k) ↔ a = b := ⟨fun h => Int.eq_of_mul_eq_mul_right (by omega) h, fun h => by rw [h]⟩
  show compareOfLessAndEq _ _ = compareOfLessAndEq _ _
  unfold compareOfLessAndEq
  simp only [e1, e2]
def sgv (s : Bool) (v : Nat) : Int := if s then -(v : Int) else v
theorem order_words (s t : Bool) {a b : Nat} (ha : a < infR) (hb : b < infR) : Ieee.double.order (Ieee.double.word s a) (Ieee.double.word t b) = some (compare (sgv s (vl a)) (sgv t (vl b))) := by
  unfold Ieee.Format.order
  rw [read_word s ha, read_word t hb]
  unfold Ieee.Datum.order
  simp only
  congr 1
  obtain ⟨i, hi⟩ : ∃ i, i = pl a := ⟨_, rfl⟩
  obtain ⟨j, hj⟩ : ∃ j, j = pl b := ⟨_, rfl⟩
  unfold vl
  rw [← hi, ← hj]
  obtain ⟨m, hm⟩ : ∃ m : Nat, m = min i j := ⟨_, rfl⟩
  have e1 : ((i : Int) - 1074 - min ((i : Int) - 1074) ((j : Int) - 1074)).toNat = i - m := by omega
  have e2 : ((j : Int) - 1074 - min ((i : Int) - 1074) ((j : Int) - 1074)).toNat = j - m := by omega
  rw [e1, e2]
  have key : ∀ (s : Bool) (g k : Nat), m ≤ k → sgv s (g * 2 ^ k) = Ieee.signed s g (k - m) * ((2 ^ m : Nat) : Int) := by
    intro s g k hk
    have e3 : g * 2 ^ k = g <<< (k - m) * 2 ^ m := by
      rw [Nat.shiftLeft_eq, Nat.mul_assoc, ← Nat.pow_add]; congr 2; omega
    unfold sgv Ieee.signed
    rw [e3, Int.natCast_mul]
    cases s
    · rfl
    · simp only [if_true]; rw [Int.neg_mul]
  rw [key s _ i (by omega), key t _ j (by omega), cmp_scale _ _ (Nat.two_pow_pos m)]

/-- Whole numbers below 2^53 are floats. -/
theorem int_exact {n : Nat} (hn : n < 9007199254740992) : vl (rung n 1) = n * S ∧ rung n 1 < infR := by
  have hfin : rung n 1 < infR := rung_fin (k := 60) Nat.one_pos (by omega) (by omega)
  refine ⟨?_, hfin⟩
  rcases Nat.eq_zero_or_pos n with h0 | h0
  · subst h0; rw [rung_zero, vl_lo C_pos]; simp
  · obtain ⟨t, ht⟩ : ∃ t, t = n.log2 + 1022 := ⟨_, rfl⟩
    have h1 : 2 ^ n.log2 ≤ n := Nat.log2_self_le (by omega)
    have h2 : n < 2 ^ (n.log2 + 1) := Nat.lt_log2_self
    have hl : n.log2 ≤ 52 := by
      apply Nat.le_of_not_lt
      intro h
      have : 2 ^ 53 ≤ 2 ^ n.log2 := two_pow_le h
      omega
    have hkS := kS_eq
    have e1 : n * 2 ^ (52 - n.log2) * 1 * 2 ^ t = n * S := by
      rw [S_eq, Nat.mul_one, Nat.mul_assoc, ← Nat.pow_add]
      generalize kS = K at *
      congr 2; omega
    have hq : n * 2 ^ (52 - n.log2) < D := by
      rw [D_two]
      refine Nat.lt_of_lt_of_eq (Nat.mul_lt_mul_of_pos_right h2 (Nat.two_pow_pos _)) ?_
      rw [← Nat.pow_add]; congr 1; omega
    have hq2 : C ≤ n * 2 ^ (52 - n.log2) := by
      rw [C_two]
      refine Nat.le_trans (Nat.le_of_eq ?_) (Nat.mul_le_mul_right _ h1)
      rw [← Nat.pow_add]; congr 1; omega
    have htC : t * C + n * 2 ^ (52 - n.log2) < infR := by
      have h3 : t * C ≤ 1074 * C := Nat.mul_le_mul_right _ (by omega)
      have hD := D_eq
      have hI : infR = 2047 * C := rfl
      omega
    have := (vl_exact (N := n) (M := 1) Nat.one_pos e1 hq (.inr hq2) htC).2.2
    rw [Nat.mul_one] at this; exact this
/-- A float that is at most 10^15: the number itself is. -/
theorem int_le15 {n : Nat} (h : vl (rung n 1) ≤ 1000000000000000 * S) : n ≤ 1000000000000000 := by
  apply Nat.le_of_not_lt
  intro hlt
  have h1 : rung 1000000000000001 1 ≤ rung n 1 := rung_mono Nat.one_pos Nat.one_pos (by omega)
  have h2 := vl_mono h1
  rw [(int_exact (n := 1000000000000001) (by omega)).1] at h2
  have hS := S_pos
  generalize S = s at *
  omega

/-- The powers of ten, as floats. -/
def pw10 : List Nat := [4607182418800017408, 4621819117588971520, 4636737291354636288, 4652007308841189376, 4666723172467343360, 4681608360884174848, 4696837146684686336, 4711630319722168320, 4726483295884279808, 4741671816366391296, 4756540486875873280, 4771362005757984768, 4786511204640096256, 4801453603149578240, 4816244402031689728, 4831355200913801216, 4846369599423283200, 4861130398305394688, 4876203697187506176, 4891288408196988160, 4906019910204099648, 4921056587992461136, 4936209963552724370]
theorem pw10_length : pw10.length = 23 := rfl
theorem pw10_ok : (List.range 23).all (fun k => Nat.beq (vl (pw10.getD k 0)) (10 ^ k * S) && Nat.blt (pw10.getD k 0) infR) = true := by kernel_rfl
theorem pw10_at {k : Nat} (h : k ≤ 22) : vl (pw10.getD k 0) = 10 ^ k * S ∧ pw10.getD k 0 < infR := by
  have h1 := List.all_eq_true.1 pw10_ok k (List.mem_range.2 (by omega))
  rw [Bool.and_eq_true] at h1
  exact ⟨Nat.eq_of_beq_eq_true h1.1, Nat.le_of_ble_eq_true h1.2⟩
end Go.Proofs.YtknjgopapbemcaaGreatDoor
/- Go's atofHex in plain numbers. -/
namespace Go.Proofs.YtknjgopapbemcaaGreatDoor
set_option linter.unusedVariables false
set_option linter.unusedSimpArgs false
theorem stk_one (A : Nat) : stk A 1 = A := by
  rw [← or_stk A 1 Nat.one_pos, Nat.div_one, Nat.mod_one]; simp
theorem stk_next (A j : Nat) : stk A (2 ^ j) / 2 ||| stk A (2 ^ j) % 2 = stk A (2 ^ (j + 1)) := by
  rw [stk_half A _ (Nat.two_pow_pos j), Nat.pow_succ, Nat.mul_comm]
theorem stk_tiny {A j : Nat} (hA : A < 2 ^ (j + 1)) : stk A (2 ^ j) ≤ 1 := by
  unfold stk
  rw [show 2 * 2 ^ j = 2 ^ (j + 1) by rw [Nat.pow_succ, Nat.mul_comm], Nat.div_eq_of_lt hA]
  have := Bool.toNat_le (decide (A % 2 ^ (j + 1) ≠ 0))
  omega
theorem stk_down {A j : Nat} (h : 1 < stk A (2 ^ j)) (hA : A < 18446744073709551616) : j < 64 := by
  apply Nat.lt_of_not_le
  intro hle
  have h1 : 2 ^ 64 ≤ 2 ^ (j + 1) := Nat.pow_le_pow_right (by omega) (by omega)
  have := stk_tiny (A := A) (j := j) (by omega)
  omega
theorem rg_scale (m j : Nat) (e : Int) : rg (m * 2 ^ j) (e - j) = rg m e := by
  unfold rg
  refine rung_same (Nat.two_pow_pos _) (Nat.two_pow_pos _) ?_
  have e1 : m * 2 ^ j * 2 ^ (e - j).toNat * 2 ^ (-e).toNat = m * 2 ^ (j + (e - j).toNat + (-e).toNat) := by rw [Nat.pow_add, Nat.pow_add]; ac_rfl
  have e2 : m * 2 ^ e.toNat * 2 ^ (-(e - j)).toNat = m * 2 ^ (e.toNat + (-(e - j)).toNat) := by rw [Nat.pow_add]; ac_rfl
  rw [e1, e2]
  refine congrArg (fun k => m * 2 ^ k) ?_
  omega
structure HxF (R m : Nat) (x : Int) : Prop where
  le : urd m ≤ 9007199254740992
  lo : urd m < 4503599627370496 → R = urd m
  hi : 4503599627370496 ≤ urd m → -1024 ≤ x ∧ R = min ((x + 1024).toNat * C + urd m) infR
theorem hex_fin {A : Nat} {X1 x : Int} {j m : Nat} (hm : m = stk A (2 ^ j)) (hx : x = X1 + j) (h55 : m < 36028797018963968) (hlo : A = 0 ∨ 18014398509481984 ≤ m ∨ x ≤ -1024) (hend : m ≤ 1 ∨ -1024 ≤ x) : HxF (rg A (X1 - 52)) m x := by
  have hP : 0 < 2 ^ j := Nat.two_pow_pos j
  by_cases hA : A = 0
  · subst hA
    have h0 : m = 0 := by rw [hm]; unfold stk; simp
    have hq : urd m = 0 := by rw [h0]; rfl
    have hr : rg 0 (X1 - 52) = 0 := by unfold rg; rw [Nat.zero_mul, rung_zero]
    rw [hr]
    exact ⟨by omega, fun _ => hq.symm, fun h => by omega⟩
  · have hlo' : 18014398509481984 ≤ m ∨ x ≤ -1024 := by
      rcases hlo with h | h
      · exact absurd h hA
      · exact h
    by_cases hx1 : -1024 ≤ x
    · obtain ⟨t, ht⟩ : ∃ t : Nat, t = (x + 1024).toNat := ⟨_, rfl⟩
      have hkS := kS_eq
      have hS := S_eq
      have hhi : A < D * 2 ^ (j + 2) := by
        have h1 := (stk_ge (A := A) (B := 2 ^ j) (n := 18014398509481984) hP)
        rw [← hm] at h1
        have h2 : ¬ (2 * 18014398509481984 * 2 ^ j ≤ A) := fun h => by have := h1.2 h; omega
        rw [D_two, Nat.pow_add, show (2 : Nat) ^ 2 = 4 from rfl]
        omega
      have hl : t = 0 ∨ C * 2 ^ (j + 2) ≤ A := by
        rcases hlo' with h | h
        · right
          have h1 := (stk_ge (A := A) (B := 2 ^ j) (n := 9007199254740992) hP)
          rw [← hm] at h1
          have h2 := h1.1 (by omega)
          rw [C_two, Nat.pow_add, show (2 : Nat) ^ 2 = 4 from rfl]
          omega
        · left; omega
      have hR : rg A (X1 - 52) = min (t * C + rne A (2 ^ (j + 2))) infR := by
        unfold rg
        refine rung_at (Nat.two_pow_pos _) (Nat.two_pow_pos _) ?_ hhi hl
        generalize kS = K at *
        rw [hS]
        have e1 : A * 2 ^ (-(X1 - 52)).toNat * 2 ^ t = A * 2 ^ ((-(X1 - 52)).toNat + t) := by rw [Nat.pow_add]; ac_rfl
        have e2 : A * 2 ^ (X1 - 52).toNat * 2 ^ (j + 2) * 2 ^ K = A * 2 ^ ((X1 - 52).toNat + (j + 2) + K) := by rw [Nat.pow_add 2 ((X1 - 52).toNat + (j + 2)) K, Nat.pow_add 2 (X1 - 52).toNat (j + 2)]; ac_rfl
        rw [e1, e2]
        refine congrArg (fun k => A * 2 ^ k) ?_
        omega
      have hq : rne A (2 ^ (j + 2)) = urd m := by
        rw [urd_rne, hm, show (4 : Nat) = 2 ^ 2 from rfl, rne_stk A (2 ^ j) 2 hP (by omega), Nat.pow_add]
      rw [hR, hq, ht]
      have hle : urd m ≤ 9007199254740992 := by unfold urd; omega
      refine ⟨hle, fun h => ?_, fun h => ⟨hx1, rfl⟩⟩
      have ht0 : (x + 1024).toNat = 0 := by
        rcases hlo' with h1 | h1
        · exfalso; unfold urd at h; omega
        · omega
      rw [ht0, Nat.zero_mul, Nat.zero_add]
      have hI : infR = 9218868437227405312 := rfl
      exact Nat.min_eq_left (by rw [hI]; omega)
    · have hm1 : m ≤ 1 := by omega
      have hq : urd m = 0 := by unfold urd; omega
      have hAj : A < 2 ^ (j + 1) := by
        apply Nat.lt_of_not_le
        intro hle
        have h1 := (stk_ge (A := A) (B := 2 ^ j) (n := 1) hP).2 (by rw [Nat.pow_succ] at hle; omega)
        omega
      have hr : rg A (X1 - 52) = 0 := by
        unfold rg
        refine rung_tiny (Nat.two_pow_pos _) ?_
        have hkS := kS_eq
        have hS := S_eq
        generalize kS = K at *
        rw [hS]
        have e0 : (X1 - 52).toNat = 0 := by omega
        rw [e0, Nat.pow_zero, Nat.mul_one]
        have h1 : A * 2 ^ K < 2 ^ (j + 1) * 2 ^ K := Nat.mul_lt_mul_of_pos_right hAj (Nat.two_pow_pos _)
        rw [← Nat.pow_add] at h1
        have h2 : 2 ^ (j + 1 + K + 1) ≤ 2 ^ (-(X1 - 52)).toNat := two_pow_le (by omega)
        rw [Nat.pow_succ] at h2
        omega
      rw [hr]
      exact ⟨by omega, fun _ => hq.symm, fun h => by omega⟩
end Go.Proofs.YtknjgopapbemcaaGreatDoor
