/- Fa Fb Fc Fd: joined by merge.py for the claim. -/
import Ieee.Arith
import Derived.Test.YtknjgopapbemcaaGreatDoorXMaMf
/- The floats of the model in plain numbers: the word nearest to a number is its rung. -/
namespace Go.Proofs.YtknjgopapbemcaaGreatDoor
set_option linter.unusedVariables false
set_option linter.unusedSimpArgs false

theorem cut_rne (neg : Bool) (n drop : Nat) : Ieee.Toward.even.cut neg n drop = rne n (2 ^ drop) := by
  unfold Ieee.Toward.cut
  simp only [Nat.shiftLeft_eq, Nat.one_mul]
  rcases Nat.lt_or_ge (n.log2 + 2) drop with h | h
  · rw [Nat.min_eq_right (Nat.le_of_lt h)]
    have hn : 2 * n < 2 ^ (n.log2 + 2) := by
      have := Nat.lt_log2_self (n := n)
      rw [Nat.pow_succ]; omega
    have hn2 : 2 ^ (n.log2 + 2) ≤ 2 ^ drop := two_pow_le (Nat.le_of_lt h)
    have e1 : n / 2 ^ (n.log2 + 2) = 0 := Nat.div_eq_of_lt (by omega)
    have e2 : n % 2 ^ (n.log2 + 2) = n := Nat.mod_eq_of_lt (by omega)
    have e3 : n / 2 ^ drop = 0 := Nat.div_eq_of_lt (by omega)
    have e4 : n % 2 ^ drop = n := Nat.mod_eq_of_lt (by omega)
    unfold rne
    rw [e1, e2, e3, e4]
    have f1 : decide (2 ^ (n.log2 + 2) < 2 * n) = false := decide_eq_false (by omega)
    have f2 : (2 ^ (n.log2 + 2) == 2 * n) = false := by
      rw [beq_eq_false_iff_ne]; omega
    rw [f1, f2]
    rw [if_neg (by omega)]
    rfl
  · rw [Nat.min_eq_left h]
    generalize 2 ^ drop = g
    unfold rne
    by_cases h1 : g < 2 * (n % g)
    · simp [h1]
    · by_cases h2 : 2 * (n % g) = g
      · by_cases h3 : n / g % 2 = 1
        · simp [h2, h3]
        · have h4 : n / g % 2 = 0 := by omega
          simp [h2, h4]
      · have h5 : (g == 2 * (n % g)) = false := by rw [beq_eq_false_iff_ne]; omega
        simp [h1, h2, h5]

theorem word_double (neg : Bool) (r : Nat) : Ieee.double.word neg r = (if neg then 9223372036854775808 + r else r) := rfl
theorem least_double : Ieee.double.leastPlace = -1074 := rfl
theorem bin_double : Ieee.double.binade = C := rfl
theorem inf_double : Ieee.double.infRung = infR := rfl

/-- The rung of m * 2^e. -/
def rg (m : Nat) (e : Int) : Nat := rung (m * 2 ^ e.toNat) (2 ^ (-e).toNat)

theorem nearest_rg (neg : Bool) (m : Nat) (e : Int) : Ieee.double.nearest neg m e = Ieee.double.word neg (rg m e) := by
  unfold Ieee.Format.nearest
  by_cases h0 : m = 0
  · rw [if_pos h0, h0]; unfold rg; rw [Nat.zero_mul, rung_zero]
  rw [if_neg h0]
  simp only [least_double, bin_double, inf_double, cut_rne, Nat.shiftLeft_eq]
  refine congrArg (Ieee.double.word neg) ?_
  have hfb : (Ieee.double.fractionBits : Int) = 52 := rfl
  rw [hfb]
  have hlo : 2 ^ m.log2 ≤ m := Nat.log2_self_le h0
  have hhi : m < 2 ^ (m.log2 + 1) := Nat.lt_log2_self
  generalize m.log2 = L at *
  obtain ⟨last, hlast⟩ : ∃ last : Int, last = max (e + (L : Int) - 52) (-1074) := ⟨_, rfl⟩
  rw [← hlast]
  obtain ⟨t, ht⟩ : ∃ t : Nat, t = (last - -1074).toNat := ⟨_, rfl⟩
  rw [← ht]
  symm
  unfold rg
  have hkS : kS = 1074 := kS_eq
  refine rung_at (Nat.two_pow_pos _) (Nat.two_pow_pos _) ?_ ?_ ?_
  · rw [S_eq]
    have e1 : ∀ a b c : Nat, m * 2 ^ a * 2 ^ b * 2 ^ c = m * 2 ^ (a + b + c) := fun a b c => by rw [Nat.pow_add, Nat.pow_add]; ac_rfl
    rw [e1, e1]
    congr 2
    omega
  · have : D = 2 ^ 53 := rfl
    rw [this]
    refine Nat.lt_of_lt_of_le (Nat.mul_lt_mul_of_pos_right hhi (Nat.two_pow_pos _)) ?_
    rw [← Nat.pow_add, ← Nat.pow_add]
    exact two_pow_le (by omega)
  · by_cases h : t = 0
    · exact .inl h
    · right
      have : C = 2 ^ 52 := rfl
      rw [this]
      refine Nat.le_trans ?_ (Nat.mul_le_mul_right _ hlo)
      rw [← Nat.pow_add, ← Nat.pow_add]
      exact two_pow_le (by omega)
end Go.Proofs.YtknjgopapbemcaaGreatDoor
/- Sticky digits; products and quotients of the model's floats, as rungs. -/
namespace Go.Proofs.YtknjgopapbemcaaGreatDoor
set_option linter.unusedVariables false
set_option linter.unusedSimpArgs false

/-- A number cut, with a last digit that tells whether anything was cut off, rounds as the number itself. -/
theorem rne_sticky (A B k : Nat) (hB : 0 < B) (hk : 1 ≤ k) : rne (2 * (A / B) + (decide (A % B ≠ 0)).toNat) (2 ^ (k + 1)) = rne A (B * 2 ^ k) := by
  obtain ⟨h, hh⟩ : ∃ h, h = 2 ^ (k - 1) := ⟨_, rfl⟩
  have hK : 2 ^ k = 2 * h := by rw [hh, ← Nat.pow_succ']; congr 1; omega
  have hK1 : 2 ^ (k + 1) = 4 * h := by rw [Nat.pow_succ', hK]; omega
  have hpos : 0 < h := by rw [hh]; exact Nat.two_pow_pos _
  rw [hK, hK1]
  obtain ⟨q, hq⟩ : ∃ q, q = A / B := ⟨_, rfl⟩
  obtain ⟨r, hr⟩ : ∃ r, r = A % B := ⟨_, rfl⟩
  have hA : A = B * q + r := by rw [hq, hr]; exact (Nat.div_add_mod A B).symm
  have hrB : r < B := by rw [hr]; exact Nat.mod_lt _ hB
  rw [← hq, ← hr]
  obtain ⟨a, ha⟩ : ∃ a, a = q / (2 * h) := ⟨_, rfl⟩
  obtain ⟨b, hb⟩ : ∃ b, b = q % (2 * h) := ⟨_, rfl⟩
  have hqq : q = 2 * h * a + b := by rw [ha, hb]; exact (Nat.div_add_mod q _).symm
  have hbh : b < 2 * h := by rw [hb]; exact Nat.mod_lt _ (by omega)
  obtain ⟨st, hst⟩ : ∃ st, st = (decide (r ≠ 0)).toNat := ⟨_, rfl⟩
  rw [← hst]
  have hs : (r = 0 ∧ st = 0) ∨ (0 < r ∧ st = 1) := by
    rw [hst]; by_cases h0 : r = 0
    · left; simp [h0]
    · right; simp [h0]; omega
  have e1 := div_of (x := A) (q := a) (m := B * (2 * h)) (r := B * b + r) (by rw [hA, hqq, Nat.mul_add]; rw [show B * (2 * h * a) = a * (B * (2 * h)) by ac_rfl]; omega) (by
    have : B * (b + 1) ≤ B * (2 * h) := Nat.mul_le_mul_left _ hbh
    rw [Nat.mul_add] at this; omega)
  have e2 := div_of (x := 2 * q + st) (q := a) (m := 4 * h) (r := 2 * b + st) (by rw [hqq, Nat.mul_add, show 2 * (2 * h * a) = a * (4 * h) by rw [show 4 * h = 2 * (2 * h) by omega]; ac_rfl]; omega) (by omega)
  unfold rne
  rw [e1.1, e1.2, e2.1, e2.2]
  have f : B * (2 * h) = 2 * (B * h) := by ac_rfl
  rw [f]
  rcases Nat.lt_trichotomy b h with hc | hc | hc
  · have : B * (b + 1) ≤ B * h := Nat.mul_le_mul_left _ hc
    rw [Nat.mul_add] at this
    rw [if_neg (by omega), if_neg (by omega)]
  · subst hc
    rcases hs with ⟨h1, h2⟩ | ⟨h1, h2⟩
    · rw [h1, h2]
      by_cases ho : a % 2 = 1
      · rw [if_pos (by omega), if_pos (by omega)]
      · rw [if_neg (by omega), if_neg (by omega)]
    · rw [if_pos (by omega), if_pos (by omega)]
  · have : B * (h + 1) ≤ B * b := Nat.mul_le_mul_left _ hc
    rw [Nat.mul_add] at this
    rw [if_pos (by omega), if_pos (by omega)]

theorem D_two : D = 2 ^ 53 := rfl
theorem C_two : C = 2 ^ 52 := rfl

theorem rung_sticky {A B : Nat} {e : Int} (hB : 0 < B) (hq : 2 ^ 53 ≤ A / B) : rg (2 * (A / B) + (decide (A % B ≠ 0)).toNat) (e - 1) = rung (A * 2 ^ e.toNat) (B * 2 ^ (-e).toNat) := by
  have hM : 0 < B * 2 ^ (-e).toNat := Nat.mul_pos hB (Nat.two_pow_pos _)
  have hs := plc_spec (A * 2 ^ e.toNat) (B * 2 ^ (-e).toNat) hM
  have hk1074 : kS = 1074 := rfl
  have hr : rung (A * 2 ^ e.toNat) (B * 2 ^ (-e).toNat) = min (plc (A * 2 ^ e.toNat) (B * 2 ^ (-e).toNat) * C + rne (A * 2 ^ e.toNat * S) (B * 2 ^ (-e).toNat * 2 ^ plc (A * 2 ^ e.toNat) (B * 2 ^ (-e).toNat))) infR := rfl
  rw [hr]
  generalize plc (A * 2 ^ e.toNat) (B * 2 ^ (-e).toNat) = t at *
  clear hr
  have hS0 := S_eq
  obtain ⟨K, hK⟩ : ∃ K, K = kS := ⟨_, rfl⟩
  rw [← hK] at hk1074 hS0
  obtain ⟨SS, hSS⟩ : ∃ SS, SS = S := ⟨_, rfl⟩
  rw [← hSS] at hs hS0 ⊢
  subst hS0
  have hAB : 2 ^ 53 * B ≤ A := by rw [← Nat.le_div_iff_mul_le hB]; exact hq
  have hlt : A * 2 ^ (e.toNat + K) < 2 ^ 53 * B * 2 ^ ((-e).toNat + t) := by
    have := hs.1
    rw [D_two] at this
    rw [Nat.pow_add, Nat.pow_add, ← Nat.mul_assoc]
    refine Nat.lt_of_lt_of_eq this (by ac_rfl)
  have hexp : e.toNat + K < (-e).toNat + t := by
    apply Nat.lt_of_not_le
    intro hle
    have h1 : 2 ^ 53 * B * 2 ^ ((-e).toNat + t) ≤ A * 2 ^ (e.toNat + K) := Nat.mul_le_mul hAB (two_pow_le hle)
    omega
  obtain ⟨k, hk⟩ : ∃ k, k = (-e).toNat + t - (e.toNat + K) := ⟨_, rfl⟩
  have hkk : (-e).toNat + t = e.toNat + K + k := by omega
  have h2p : 0 < 2 ^ (e.toNat + K) := Nat.two_pow_pos _
  have hlt2 : A < 2 ^ 53 * B * 2 ^ k := by
    rw [hkk, Nat.pow_add 2 (e.toNat + K) k, Nat.mul_comm (2 ^ (e.toNat + K)), ← Nat.mul_assoc] at hlt
    exact Nat.lt_of_mul_lt_mul_right hlt
  have hge2 : t = 0 ∨ 2 ^ 52 * B * 2 ^ k ≤ A := by
    rcases hs.2 with h | h
    · exact .inl h
    · right
      refine Nat.le_of_mul_le_mul_right (c := 2 ^ (e.toNat + K)) ?_ h2p
      rw [C_two] at h
      calc 2 ^ 52 * B * 2 ^ k * 2 ^ (e.toNat + K) = 2 ^ 52 * (B * 2 ^ (-e).toNat * 2 ^ t) := by
            rw [Nat.mul_assoc (2 ^ 52 * B), Nat.mul_comm (2 ^ k), ← Nat.pow_add, ← hkk, Nat.pow_add]; ac_rfl
        _ ≤ A * 2 ^ e.toNat * 2 ^ K := h
        _ = A * 2 ^ (e.toNat + K) := by rw [Nat.pow_add]; ac_rfl
  have hrne : rne (A * 2 ^ e.toNat * 2 ^ K) (B * 2 ^ (-e).toNat * 2 ^ t) = rne A (B * 2 ^ k) := by
    refine rne_same (Nat.mul_pos hM (Nat.two_pow_pos _)) (Nat.mul_pos hB (Nat.two_pow_pos _)) ?_
    have e1 : A * 2 ^ e.toNat * 2 ^ K * (B * 2 ^ k) = A * B * 2 ^ (e.toNat + K + k) := by rw [Nat.pow_add, Nat.pow_add]; ac_rfl
    have e2 : A * (B * 2 ^ (-e).toNat * 2 ^ t) = A * B * 2 ^ ((-e).toNat + t) := by rw [Nat.pow_add]; ac_rfl
    rw [e1, e2, hkk]
  rw [hrne, ← rne_sticky A B k hB (by omega)]
  obtain ⟨q, hqd⟩ : ∃ q, q = A / B := ⟨_, rfl⟩
  have hqlt : q < 2 ^ (53 + k) := by
    rw [hqd, Nat.div_lt_iff_lt_mul hB, Nat.pow_add]
    exact Nat.lt_of_lt_of_eq hlt2 (by ac_rfl)
  have hqge : t = 0 ∨ 2 ^ (52 + k) ≤ q := by
    rcases hge2 with h | h
    · exact .inl h
    · right
      rw [hqd, Nat.le_div_iff_mul_le hB, Nat.pow_add]
      exact Nat.le_trans (Nat.le_of_eq (by ac_rfl)) h
  rw [← hqd]
  generalize hst : (decide (A % B ≠ 0)).toNat = st
  have hst1 : st ≤ 1 := by rw [← hst]; exact Bool.toNat_le _
  unfold rg
  refine rung_at (Nat.two_pow_pos _) (Nat.two_pow_pos _) ?_ ?_ ?_
  · rw [← hSS]
    have e1 : (2 * q + st) * 2 ^ (-(e - 1)).toNat * 2 ^ t = (2 * q + st) * 2 ^ ((-(e - 1)).toNat + t) := by rw [Nat.pow_add]; ac_rfl
    have e2 : (2 * q + st) * 2 ^ (e - 1).toNat * 2 ^ (k + 1) * 2 ^ K = (2 * q + st) * 2 ^ ((e - 1).toNat + (k + 1) + K) := by rw [Nat.pow_add 2 ((e - 1).toNat + (k + 1)) K, Nat.pow_add 2 ((e - 1).toNat) (k + 1)]; ac_rfl
    rw [e1, e2]
    congr 2
    omega
  · rw [D_two, ← Nat.pow_add, show 53 + (k + 1) = (53 + k) + 1 by omega, Nat.pow_succ]
    omega
  · rcases hqge with h | h
    · exact .inl h
    · right
      rw [C_two, ← Nat.pow_add, show 52 + (k + 1) = (52 + k) + 1 by omega, Nat.pow_succ]
      omega

/-- What a rung stands for: a magnitude and a place. -/
def mg (r : Nat) : Nat := if r < C then r else C + r % C
def pl (r : Nat) : Nat := if r < C then 0 else r / C - 1
/-- Its value, in least places. -/
def vl (r : Nat) : Nat := mg r * 2 ^ pl r

theorem infR_lt : infR < 9223372036854775808 := by decide
theorem read_word (neg : Bool) {r : Nat} (hr : r < infR) : Ieee.double.read (Ieee.double.word neg r) = .number neg (mg r) ((pl r : Int) - 1074) := by
  have hlt := infR_lt
  have e1 : Ieee.double.word neg r / 9223372036854775808 % 2 = neg.toNat := by
    rw [word_double]; cases neg
    · show r / _ % 2 = 0; omega
    · show (9223372036854775808 + r) / _ % 2 = 1; omega
  have e2 : Ieee.double.word neg r % 9223372036854775808 = r := by
    rw [word_double]; cases neg
    · show r % _ = r; omega
    · show (9223372036854775808 + r) % _ = r; omega
  unfold Ieee.Format.read
  have hsw : Ieee.double.signWeight = 9223372036854775808 := rfl
  simp only [hsw, e1, e2, bin_double, inf_double, least_double]
  have hn : (neg.toNat == 1) = neg := by cases neg <;> rfl
  rw [hn]
  unfold mg pl
  by_cases h : r < C
  · rw [if_pos h, if_pos h, if_pos h]; simp
  · rw [if_neg h, if_pos hr, if_neg h, if_neg h]
    congr 1

theorem mg_at {q t : Nat} (hq : q < D) (h : t = 0 ∨ C ≤ q) : mg (t * C + q) = q ∧ pl (t * C + q) = t := by
  have hC := C_pos
  have hD := D_eq
  unfold mg pl
  by_cases hlt : t * C + q < C
  · rcases Nat.eq_zero_or_pos t with h0 | h0
    · subst h0; rw [if_pos hlt, if_pos hlt]; simp
    · have := Nat.mul_le_mul_right C h0; omega
  · rw [if_neg hlt, if_neg hlt]
    have hqC : C ≤ q := by
      rcases h with h | h
      · subst h; omega
      · exact h
    have hd := div_of (x := t * C + q) (q := t + 1) (m := C) (r := q - C) (by rw [Nat.add_mul]; omega) (by omega)
    rw [hd.1, hd.2]
    omega
theorem infR_gt {q t : Nat} (h : t * C + q < infR) : True := trivial

/-- A number that is a float: its rung's value. -/
theorem vl_exact {N M q t : Nat} (hM : 0 < M) (hv : q * M * 2 ^ t = N * S) (hq : q < D) (h : t = 0 ∨ C ≤ q) (ht : t * C + q < infR) : rung N M = t * C + q ∧ vl (rung N M) = q * 2 ^ t ∧ vl (rung N M) * M = N * S := by
  have e := rung_at (N := N) (M := M) (a := q) (b := 1) (t := t) hM Nat.one_pos (by rw [hv, Nat.mul_one]) (by omega) (h.imp id (fun h => by omega))
  rw [rne_one, Nat.min_eq_left (Nat.le_of_lt ht)] at e
  obtain ⟨h1, h2⟩ := mg_at hq h
  have e2 : vl (t * C + q) = q * 2 ^ t := by unfold vl; rw [h1, h2]
  rw [e]
  refine ⟨rfl, e2, ?_⟩
  rw [e2, ← hv]; ac_rfl

theorem prod_rung {a b N1 M1 N2 M2 : Nat} (hM1 : 0 < M1) (hM2 : 0 < M2) (h1 : vl a * M1 = N1 * S) (h2 : vl b * M2 = N2 * S) :
    rg (mg a * mg b) (((pl a : Int) - 1074) + ((pl b : Int) - 1074)) = rung (N1 * N2) (M1 * M2) := by
  unfold vl at h1 h2
  have hkS : kS = 1074 := kS_eq
  have hS0 := S_eq
  generalize kS = K at *
  generalize S = SS at *
  subst hS0
  have h3 : mg a * mg b * (M1 * M2) * 2 ^ (pl a + pl b) = N1 * N2 * 2 ^ (K + K) := by
    rw [Nat.pow_add, Nat.pow_add]
    calc mg a * mg b * (M1 * M2) * (2 ^ pl a * 2 ^ pl b) = (mg a * 2 ^ pl a * M1) * (mg b * 2 ^ pl b * M2) := by ac_rfl
      _ = (N1 * 2 ^ K) * (N2 * 2 ^ K) := by rw [h1, h2]
      _ = _ := by ac_rfl
  generalize hE : ((pl a : Int) - 1074) + ((pl b : Int) - 1074) = E
  have h4 := two_shift h3 (x' := E.toNat) (y' := (-E).toNat) (by omega)
  unfold rg
  refine rung_same (Nat.two_pow_pos _) (Nat.mul_pos hM1 hM2) ?_
  rw [← h4]; ac_rfl

theorem mul_words (s t : Bool) {a b N1 M1 N2 M2 : Nat} (ha : a < infR) (hb : b < infR) (hM1 : 0 < M1) (hM2 : 0 < M2) (h1 : vl a * M1 = N1 * S) (h2 : vl b * M2 = N2 * S) :
    Ieee.double.mul (Ieee.double.word s a) (Ieee.double.word t b) = some (Ieee.double.word (s ^^ t) (rung (N1 * N2) (M1 * M2))) := by
  unfold Ieee.Format.mul
  rw [read_word s ha, read_word t hb]
  show some (Ieee.double.nearest (s ^^ t) (mg a * mg b) _) = _
  rw [nearest_rg, prod_rung hM1 hM2 h1 h2]

theorem quot_rung {a b N1 M1 N2 M2 : Nat} (hM1 : 0 < M1) (hM2 : 0 < M2) (hN2 : 0 < N2) (ha : mg a ≠ 0) (hb : mg b ≠ 0) (h1 : vl a * M1 = N1 * S) (h2 : vl b * M2 = N2 * S) (more : Nat) (hmore : 2 ^ 54 * 2 ^ (mg b).log2 ≤ mg a <<< more) :
    rg (2 * ((mg a <<< more) / mg b) + ((mg a <<< more) % mg b != 0).toNat) (((pl a : Int) - 1074) - ((pl b : Int) - 1074) - more - 1) = rung (N1 * M2) (M1 * N2) := by
  have hbp : 0 < mg b := by omega
  have hq : 2 ^ 53 ≤ (mg a <<< more) / mg b := by
    rw [Nat.le_div_iff_mul_le hbp]
    refine Nat.le_trans (Nat.mul_le_mul_left _ (Nat.le_of_lt (Nat.lt_log2_self (n := mg b)))) (Nat.le_trans (Nat.le_of_eq ?_) hmore)
    rw [← Nat.pow_add, ← Nat.pow_add]; congr 1; omega
  have e := rung_sticky (e := ((pl a : Int) - 1074) - ((pl b : Int) - 1074) - more) hbp hq
  have hbne : ((mg a <<< more) % mg b != 0) = decide ((mg a <<< more) % mg b ≠ 0) := by
    by_cases h : (mg a <<< more) % mg b = 0
    · rw [h]; rfl
    · rw [decide_eq_true h]; simp [h]
  rw [hbne, e]
  refine rung_same (Nat.mul_pos hbp (Nat.two_pow_pos _)) (Nat.mul_pos hM1 hN2) ?_
  rw [Nat.shiftLeft_eq]
  unfold vl at h1 h2
  generalize hE : ((pl a : Int) - 1074) - ((pl b : Int) - 1074) - more = E
  have h3 : mg a * 2 ^ pl a * M1 * (N2 * S) = N1 * S * (mg b * 2 ^ pl b * M2) := by rw [h1, h2]
  have hSp := S_pos
  generalize S = SS at *
  have h4 : mg a * M1 * N2 * 2 ^ (pl a) = N1 * mg b * M2 * 2 ^ (pl b) := by
    refine Nat.eq_of_mul_eq_mul_right hSp ?_
    calc mg a * M1 * N2 * 2 ^ (pl a) * SS = mg a * 2 ^ pl a * M1 * (N2 * SS) := by ac_rfl
      _ = N1 * SS * (mg b * 2 ^ pl b * M2) := h3
      _ = _ := by ac_rfl
  have h5 := two_shift h4 (x' := more + E.toNat) (y' := (-E).toNat) (by omega)
  rw [Nat.pow_add] at h5
  calc mg a * 2 ^ more * 2 ^ E.toNat * (M1 * N2) = mg a * M1 * N2 * (2 ^ more * 2 ^ E.toNat) := by ac_rfl
    _ = N1 * mg b * M2 * 2 ^ (-E).toNat := h5
    _ = _ := by ac_rfl

theorem div_words (s t : Bool) {a b N1 M1 N2 M2 : Nat} (ha : a < infR) (hb : b < infR) (hM1 : 0 < M1) (hM2 : 0 < M2) (hN2 : 0 < N2) (ha0 : mg a ≠ 0) (h1 : vl a * M1 = N1 * S) (h2 : vl b * M2 = N2 * S) :
    Ieee.double.div (Ieee.double.word s a) (Ieee.double.word t b) = some (Ieee.double.word (s ^^ t) (rung (N1 * M2) (M1 * N2))) := by
  have hb0 : mg b ≠ 0 := by
    intro h
    have : 0 < N2 * S := Nat.mul_pos hN2 S_pos
    rw [← h2] at this
    unfold vl at this
    rw [h] at this
    simp at this
  unfold Ieee.Format.div
  rw [read_word s ha, read_word t hb]
  unfold Ieee.Datum.quotient
  simp only [hb0, if_false, if_neg hb0]
  show some (Ieee.double.nearest (s ^^ t) _ _) = _
  rw [nearest_rg]
  have hf : Ieee.double.fractionBits = 52 := rfl
  rw [hf]
  generalize hmm : 52 + 2 + (mg b).log2 - (mg a).log2 = more
  rw [quot_rung hM1 hM2 hN2 ha0 hb0 h1 h2 more ?_]
  rw [Nat.shiftLeft_eq]
  have hlo : 2 ^ (mg a).log2 ≤ mg a := Nat.log2_self_le ha0
  refine Nat.le_trans ?_ (Nat.mul_le_mul_right _ hlo)
  rw [← Nat.pow_add, ← Nat.pow_add]
  exact two_pow_le (by omega)
end Go.Proofs.YtknjgopapbemcaaGreatDoor
/- Go's uscale in plain numbers: what it gives is the exact product, cut, with a last digit that tells whether anything was cut off. -/
namespace Go.Proofs.YtknjgopapbemcaaGreatDoor
set_option linter.unusedVariables false
set_option linter.unusedSimpArgs false

/-- A / B, cut; its last digit is 1 where anything was cut off. -/
def stk (A B : Nat) : Nat := 2 * (A / (2 * B)) + (decide (A % (2 * B) ≠ 0)).toNat

theorem or_bit (q b : Nat) (hb : b ≤ 1) : q ||| b = 2 * (q / 2) + (if q % 2 = 1 ∨ b = 1 then 1 else 0) := by
  have h1 : (q ||| b) / 2 = q / 2 := by
    have e : ∀ n : Nat, n / 2 = n >>> 1 := fun n => (Nat.shiftRight_eq_div_pow n 1).symm
    rw [e, Nat.shiftRight_or_distrib, ← e, ← e, show b / 2 = 0 by omega, Nat.or_zero]
  have h2 : (q ||| b) % 2 = if q % 2 = 1 ∨ b = 1 then 1 else 0 := by
    have hq : q % 2 = 0 ∨ q % 2 = 1 := by omega
    have e : (q ||| b) % 2 = (q % 2 ||| b % 2) := by
      have := Nat.or_mod_two_pow (a := q) (b := b) (n := 1)
      simpa using this
    have hb2 : b = 0 ∨ b = 1 := by omega
    rw [e]
    rcases hq with h | h <;> rcases hb2 with h' | h' <;> rw [h, h'] <;> rfl
  have := Nat.div_add_mod (q ||| b) 2
  omega

theorem or_stk (A B : Nat) (hB : 0 < B) : A / B ||| (decide (A % B ≠ 0)).toNat = stk A B := by
  rw [or_bit _ _ (Bool.toNat_le _)]
  unfold stk
  have e1 : A / B / 2 = A / (2 * B) := by rw [Nat.div_div_eq_div_mul, Nat.mul_comm]
  rw [e1]
  congr 1
  have hq : A = B * (A / B) + A % B := (Nat.div_add_mod A B).symm
  have hr : A % B < B := Nat.mod_lt _ hB
  have e2 : A % (2 * B) = B * (A / B % 2) + A % B := by rw [Nat.mul_comm 2, Nat.mod_mul]; omega
  rw [e2]
  have hm : A / B % 2 = 0 ∨ A / B % 2 = 1 := by omega
  rcases hm with h | h
  · rw [h]
    by_cases h0 : A % B = 0
    · simp [h0]
    · simp [h0]
  · rw [h]
    rw [if_pos (.inl rfl), decide_eq_true (by omega)]; rfl

theorem stk_in {Y B k : Nat} (h1 : k * B < Y) (h2 : Y < (k + 1) * B) : k ||| 1 = stk Y B := by
  rw [Nat.add_mul] at h2
  have hB : 0 < B := by omega
  have e := div_of (x := Y) (q := k) (m := B) (r := Y - k * B) (by omega) (by omega)
  rw [← or_stk Y B hB, e.1, e.2, decide_eq_true (by omega)]
  rfl
theorem stk_at {Y B k : Nat} (hB : 0 < B) (h1 : Y = k * B) : k = stk Y B := by
  have e := div_of (x := Y) (q := k) (m := B) (r := 0) (by omega) hB
  rw [← or_stk Y B hB, e.1, e.2]
  simp
theorem stk_half (A B : Nat) (hB : 0 < B) : stk A B / 2 ||| stk A B % 2 = stk A (2 * B) := by
  have e1 : stk A B / 2 = A / (2 * B) := by
    unfold stk; have := Bool.toNat_le (decide (A % (2 * B) ≠ 0)); omega
  have e2 : stk A B % 2 = (decide (A % (2 * B) ≠ 0)).toNat := by
    unfold stk; have := Bool.toNat_le (decide (A % (2 * B) ≠ 0)); omega
  rw [e1, e2, or_stk A (2 * B) (by omega)]
theorem rne_stk (A B k : Nat) (hB : 0 < B) (hk : 2 ≤ k) : rne (stk A B) (2 ^ k) = rne A (B * 2 ^ k) := by
  obtain ⟨j, rfl⟩ : ∃ j, k = j + 1 := ⟨k - 1, by omega⟩
  unfold stk
  rw [rne_sticky A (2 * B) j (by omega) (by omega)]
  congr 1
  rw [Nat.pow_succ]; ac_rfl
theorem stk_le {A B n : Nat} (hB : 0 < B) (h : A ≤ 2 * n * B) : stk A B ≤ 2 * n := by
  unfold stk
  rcases Nat.lt_or_ge (A / (2 * B)) n with h1 | h1
  · have := Bool.toNat_le (decide (A % (2 * B) ≠ 0)); omega
  · have h2 : n * (2 * B) ≤ A := (Nat.le_div_iff_mul_le (by omega)).1 h1
    have h3 : A = n * (2 * B) := Nat.le_antisymm (Nat.le_trans h (Nat.le_of_eq (by ac_rfl))) h2
    have e := div_of (x := A) (q := n) (m := 2 * B) (r := 0) (by omega) (by omega)
    rw [e.1, e.2]; simp
theorem stk_ge {A B n : Nat} (hB : 0 < B) : 2 * n ≤ stk A B ↔ 2 * n * B ≤ A := by
  have e : 2 * n ≤ stk A B ↔ n ≤ A / (2 * B) := by
    unfold stk; have := Bool.toNat_le (decide (A % (2 * B) ≠ 0)); omega
  rw [e, Nat.le_div_iff_mul_le (by omega), show n * (2 * B) = 2 * n * B by ac_rfl]

/-- What is near a multiple is one. -/
def Gap (Pn Pd : Nat) : Prop := ∀ x k : Nat, 9223372036854775808 ≤ x → x < 18446744073709551616 → k * (2 ^ 136 * Pd) < x * Pn + 2 ^ 65 * Pd → x * Pn ≤ k * (2 ^ 136 * Pd) + 2 ^ 64 * Pd → x * Pn = k * (2 ^ 136 * Pd)

theorem gap_of {Pn Pd a b E1 E2 : Nat} (hPd : 0 < Pd) (hb : 0 < b) (hco : Nat.gcd a b = 1)
    (hE : b * Pn + E2 = a * (2 ^ 136 * Pd) + E1) (h5 : 18446744073709551616 * (E1 + E2) * 2 ^ 71 + b * (2 ^ 136 * Pd) ≤ 2 ^ 71 * (2 ^ 136 * Pd))
    (h : (E1 = 0 ∧ E2 = 0) ∨ 18446744073709551616 ≤ b ∨ ∃ m, (m - 1) * b < 9223372036854775808 ∧ ((E1 = 0 ∧ 2 ^ 136 * Pd ≤ m * E2 * 2 ^ 71) ∨ (E2 = 0 ∧ 2 ^ 136 * Pd < m * E1 * 2 ^ 72))) : Gap Pn Pd := by
  intro x k hx0 hx h1 h2
  have hBp : 2 ^ 136 * Pd = 2 ^ 71 * (2 ^ 65 * Pd) := by rw [← Nat.mul_assoc, ← Nat.pow_add]
  have hq2 : 2 ^ 65 * Pd = 2 * (2 ^ 64 * Pd) := by rw [← Nat.mul_assoc]
  generalize hq : 2 ^ 65 * Pd = q at *
  generalize hqq : 2 ^ 64 * Pd = q' at *
  generalize hBB : 2 ^ 136 * Pd = Bp at *
  have hqp : 0 < q := by rw [← hq]; exact Nat.mul_pos (Nat.two_pow_pos _) hPd
  have g0 : x * (b * Pn) + x * E2 = x * a * Bp + x * E1 := by
    rw [← Nat.mul_add, hE, Nat.mul_add, Nat.mul_assoc]
  by_cases hk : x * a = b * k
  · have hdx : b ∣ x := (Nat.Coprime.dvd_of_dvd_mul_right (show Nat.Coprime b a by unfold Nat.Coprime; rw [Nat.gcd_comm]; exact hco) ⟨k, hk⟩)
    rcases h with ⟨r1, r2⟩ | hb64 | ⟨m, hm, hmE⟩
    · refine Nat.eq_of_mul_eq_mul_left hb ?_
      rw [r1, r2] at hE
      calc b * (x * Pn) = x * (b * Pn) := by ac_rfl
        _ = x * a * Bp := by rw [show b * Pn = a * Bp by omega]; ac_rfl
        _ = b * (k * Bp) := by rw [hk]; ac_rfl
    · exfalso
      have := Nat.le_of_dvd (by omega) hdx
      omega
    · exfalso
      obtain ⟨n, rfl⟩ := hdx
      have hka : k = n * a := by
        refine Nat.eq_of_mul_eq_mul_left hb ?_
        rw [← hk]; ac_rfl
      subst hka
      have hnm : m ≤ n := by
        rcases Nat.lt_or_ge n m with hlt | hge
        · have h6 : n * b ≤ (m - 1) * b := Nat.mul_le_mul_right _ (by omega)
          rw [Nat.mul_comm b n] at hx0
          omega
        · exact hge
      have g1 : b * n * Pn + n * E2 = n * a * Bp + n * E1 := by
        have := congrArg (n * ·) hE
        simp only [Nat.mul_add] at this
        rw [show b * n * Pn = n * (b * Pn) by ac_rfl, Nat.mul_assoc n a Bp]
        exact this
      rcases hmE with ⟨r1, h6⟩ | ⟨r2, h6⟩
      · have h7 : m * E2 ≤ n * E2 := Nat.mul_le_mul_right _ hnm
        rw [r1] at g1
        omega
      · have h7 : m * E1 ≤ n * E1 := Nat.mul_le_mul_right _ hnm
        rw [r2] at g1
        omega
  · exfalso
    -- b * q + 2^64 E <= Bp
    have h6 : b * q + 18446744073709551616 * (E1 + E2) ≤ Bp := by
      refine Nat.le_of_mul_le_mul_left (c := 2 ^ 71) ?_ (Nat.two_pow_pos 71)
      refine Nat.le_trans (Nat.le_of_eq ?_) h5
      rw [hBp, Nat.mul_add]
      rw [show 2 ^ 71 * (b * q) = b * (2 ^ 71 * q) by ac_rfl, show 2 ^ 71 * (18446744073709551616 * (E1 + E2)) = 18446744073709551616 * (E1 + E2) * 2 ^ 71 by ac_rfl]
      omega
    have hxE : x * (E1 + E2) ≤ 18446744073709551616 * (E1 + E2) := Nat.mul_le_mul_right _ (Nat.le_of_lt hx)
    rw [Nat.mul_add] at hxE
    have g3 : b * k * Bp < x * (b * Pn) + b * q := by
      have := Nat.mul_lt_mul_of_pos_left h1 hb
      rw [Nat.mul_add, show b * (k * Bp) = b * k * Bp by ac_rfl, show b * (x * Pn) = x * (b * Pn) by ac_rfl] at this
      exact this
    have g4 : x * (b * Pn) < b * k * Bp + b * q := by
      have := Nat.mul_lt_mul_of_pos_left (show x * Pn < k * Bp + q by omega) hb
      rw [Nat.mul_add, show b * (k * Bp) = b * k * Bp by ac_rfl, show b * (x * Pn) = x * (b * Pn) by ac_rfl] at this
      exact this
    rcases Nat.lt_or_gt_of_ne hk with hlt | hgt
    · have h7 : (x * a + 1) * Bp ≤ b * k * Bp := Nat.mul_le_mul_right _ hlt
      rw [Nat.add_mul] at h7
      omega
    · have h7 : (b * k + 1) * Bp ≤ x * a * Bp := Nat.mul_le_mul_right _ hgt
      rw [Nat.add_mul] at h7
      omega

structure USc (x hi0 lo0 Pn Pd s : Nat) (hi mid mid2 : Nat) : Prop where
  a : hi % 2 ^ s ≠ 0 → hi / 2 ^ s ||| 1 = stk (x * Pn) (2 ^ 128 * Pd * 2 ^ s)
  b1 : hi % 2 ^ s = 0 → mid < mid2 → 1 ≤ hi ∧ mid2 + 2 ≤ 18446744073709551616 + mid ∧ (hi - 1) / 2 ^ s ||| 1 = stk (x * Pn) (2 ^ 128 * Pd * 2 ^ s)
  b2 : hi % 2 ^ s = 0 → mid2 + 2 ≤ mid → hi / 2 ^ s ||| 1 = stk (x * Pn) (2 ^ 128 * Pd * 2 ^ s)
  b3 : hi % 2 ^ s = 0 → mid2 ≤ mid → mid < mid2 + 2 → hi / 2 ^ s = stk (x * Pn) (2 ^ 128 * Pd * 2 ^ s)

theorem uscale_spec {x hi0 lo0 Pn Pd s hi mid mid2 r : Nat} (hx63 : 9223372036854775808 ≤ x) (hx : x < 18446744073709551616) (hlo : lo0 < 18446744073709551616) (hPd : 0 < Pd)
    (hB1 : Pn + lo0 * Pd ≤ hi0 * (18446744073709551616 * Pd)) (hB2 : hi0 * (18446744073709551616 * Pd) < Pn + lo0 * Pd + Pd)
    (hm : x * hi0 = hi * 18446744073709551616 + mid) (hmid : mid < 18446744073709551616) (hm2 : x * lo0 = mid2 * 18446744073709551616 + r) (hr : r < 18446744073709551616)
    (gap : Gap Pn Pd) (hs : 8 ≤ s) : USc x hi0 lo0 Pn Pd s hi mid mid2 := by
  have hWW : 2 ^ 128 * Pd = 18446744073709551616 * (18446744073709551616 * Pd) := by rw [← Nat.mul_assoc]
  have hgp := gap x (hi / 2 ^ 8) hx63 hx
  have hx0 : 0 < x := by omega
  have hQ65 : 2 ^ 65 * Pd = 2 * (18446744073709551616 * Pd) := by rw [← Nat.mul_assoc]
  have h136 : 2 ^ 136 * Pd = 2 ^ 8 * (2 ^ 128 * Pd) := by rw [← Nat.mul_assoc, ← Nat.pow_add]
  rw [h136, hQ65, show 2 ^ 64 * Pd = 18446744073709551616 * Pd from rfl] at hgp
  have hP2 : 0 < 2 ^ s := Nat.two_pow_pos s
  obtain ⟨z, hz⟩ : ∃ z, 2 ^ s = 2 ^ 8 * z := ⟨2 ^ (s - 8), by rw [← Nat.pow_add]; congr 1; omega⟩
  generalize h2s : 2 ^ s = P at *
  -- the pieces
  generalize hQ : 18446744073709551616 * Pd = Q at *
  generalize hW : 2 ^ 128 * Pd = W at *
  have hQpos : 0 < Q := by omega
  have hWpos : 0 < W := by omega
  have i1 : x * Pn + mid2 * Q + r * Pd ≤ hi * W + mid * Q := by
    have := Nat.mul_le_mul_left x hB1
    rw [Nat.mul_add] at this
    have e1 : x * (lo0 * Pd) = mid2 * Q + r * Pd := by rw [← Nat.mul_assoc, hm2, Nat.add_mul, ← hQ]; ac_rfl
    have e2 : x * (hi0 * Q) = hi * W + mid * Q := by rw [← Nat.mul_assoc, hm, Nat.add_mul, hWW]; ac_rfl
    rw [e1, e2] at this
    omega
  have i2 : hi * W + mid * Q < x * Pn + mid2 * Q + r * Pd + x * Pd ∧ hi * W + mid * Q < x * Pn + x * Q := by
    have := Nat.mul_lt_mul_of_pos_left hB2 hx0
    have e1 : x * (lo0 * Pd) = mid2 * Q + r * Pd := by rw [← Nat.mul_assoc, hm2, Nat.add_mul, ← hQ]; ac_rfl
    have e2 : x * (hi0 * Q) = hi * W + mid * Q := by rw [← Nat.mul_assoc, hm, Nat.add_mul, hWW]; ac_rfl
    rw [Nat.mul_add, Nat.mul_add, e1, e2] at this
    refine ⟨by omega, ?_⟩
    have e3 : x * (lo0 * Pd) + x * Pd ≤ x * Q := by
      rw [← Nat.mul_add, ← Nat.succ_mul]
      exact Nat.mul_le_mul_left _ (by rw [← hQ]; exact Nat.mul_le_mul_right _ hlo)
    rw [e1] at e3
    omega
  have j1 : r * Pd + Pd ≤ Q := by rw [← Nat.succ_mul, ← hQ]; exact Nat.mul_le_mul_right _ hr
  have j2 : x * Pd + Pd ≤ Q := by rw [← Nat.succ_mul, ← hQ]; exact Nat.mul_le_mul_right _ hx
  have j3 : x * Q + Q ≤ W := by rw [← Nat.succ_mul, hWW]; exact Nat.mul_le_mul_right _ hx
  have j4 : mid * Q + Q ≤ W := by rw [← Nat.succ_mul, hWW]; exact Nat.mul_le_mul_right _ hmid
  have hsmall : mid2 + 2 ≤ 18446744073709551616 := by
    have h1 : x * lo0 ≤ 18446744073709551615 * 18446744073709551615 := Nat.mul_le_mul (by omega) (by omega)
    omega
  generalize hY : x * Pn = Y at *
  have up : Y < hi * W + W := by omega
  have dn1 : hi * W < Y + W := by omega
  obtain ⟨k, hk⟩ : ∃ k, k = hi / P := ⟨_, rfl⟩
  obtain ⟨j, hj⟩ : ∃ j, j = hi % P := ⟨_, rfl⟩
  have hkj : hi = P * k + j := by rw [hk, hj]; exact (Nat.div_add_mod hi P).symm
  have hjP : j < P := by rw [hj]; exact Nat.mod_lt _ hP2
  have hiW : hi * W = k * (W * P) + j * W := by rw [hkj, Nat.add_mul]; congr 1; ac_rfl
  have hPW : j * W + W ≤ W * P := by rw [← Nat.succ_mul, Nat.mul_comm W P]; exact Nat.mul_le_mul_right _ hjP
  refine ⟨fun h => ?_, fun h h' => ?_, fun h h' => ?_, fun h h' h'' => ?_⟩ <;> rw [h2s, hW, hY] <;> rw [h2s] at h
  · rw [← hk]
    have hj1 : 1 * W ≤ j * W := Nat.mul_le_mul_right _ (by omega)
    exact stk_in (by omega) (by rw [Nat.add_mul]; omega)
  · have hq1 : mid * Q + Q ≤ mid2 * Q := by rw [← Nat.succ_mul]; exact Nat.mul_le_mul_right _ h'
    have hYl : Y < hi * W := by omega
    have hi1 : 1 ≤ hi := by
      rcases Nat.eq_zero_or_pos hi with h0 | h0
      · rw [h0] at hYl; omega
      · exact h0
    refine ⟨hi1, by omega, ?_⟩
    have hj0 : j = 0 := by omega
    subst hj0
    have hk1 : 1 ≤ k := by
      rcases Nat.eq_zero_or_pos k with h0 | h0
      · subst h0; omega
      · exact h0
    obtain ⟨k', rfl⟩ : ∃ k', k = k' + 1 := ⟨k - 1, by omega⟩
    have hkk := hkj
    rw [Nat.mul_add] at hkk
    have e : (hi - 1) / P = k' := (div_of (x := hi - 1) (q := k') (m := P) (r := P - 1) (by rw [Nat.mul_comm k' P]; omega) (by omega)).1
    rw [e]
    rw [Nat.add_mul] at hiW
    have hWP : W ≤ W * P := Nat.le_mul_of_pos_right _ hP2
    exact stk_in (by omega) (by rw [Nat.add_mul]; omega)
  · have hq1 : mid2 * Q + 2 * Q ≤ mid * Q := by rw [← Nat.add_mul]; exact Nat.mul_le_mul_right _ h'
    have hYl : hi * W < Y := by omega
    rw [← hk]
    have hj0 : j = 0 := by omega
    subst hj0
    have hWP : W ≤ W * P := Nat.le_mul_of_pos_right _ hP2
    exact stk_in (by omega) (by rw [Nat.add_mul]; omega)
  · rw [← hk]
    have hq1 : mid2 * Q ≤ mid * Q := Nat.mul_le_mul_right _ h'
    have hq2 : mid * Q ≤ mid2 * Q + Q := by rw [← Nat.succ_mul]; exact Nat.mul_le_mul_right _ (by omega)
    have hj0 : j = 0 := by omega
    subst hj0
    have e8 : hi / 2 ^ 8 * (2 ^ 8 * W) = hi * W := by
      rw [← Nat.mul_assoc]
      congr 1
      rw [hkj, hz, Nat.add_zero, Nat.mul_assoc, Nat.mul_div_cancel_left _ (by decide)]
      ac_rfl
    rw [e8] at hgp
    have hYe : Y = hi * W := hgp (by omega) (by omega)
    exact stk_at (Nat.mul_pos hWpos hP2) (by omega)
end Go.Proofs.YtknjgopapbemcaaGreatDoor
/- Go's parseFloat64 in plain numbers: what it packs is the rung of the number. -/
namespace Go.Proofs.YtknjgopapbemcaaGreatDoor
set_option linter.unusedVariables false
set_option linter.unusedSimpArgs false

/-- 10^p * 2^(127 - lp), as a fraction. -/
def pN (p lp : Int) : Nat := 10 ^ p.toNat * 2 ^ (127 - lp).toNat
def pD (p lp : Int) : Nat := 10 ^ (-p).toNat * 2 ^ (-(127 - lp)).toNat
theorem pD_pos (p lp : Int) : 0 < pD p lp := Nat.mul_pos (Nat.pow_pos (by omega)) (Nat.two_pow_pos _)
structure Cert (p lp : Int) (hi0 lo0 : Nat) : Prop where
  hi : hi0 < 18446744073709551616
  lo : lo0 < 18446744073709551616
  b1 : pN p lp + lo0 * pD p lp ≤ hi0 * (18446744073709551616 * pD p lp)
  b2 : hi0 * (18446744073709551616 * pD p lp) < pN p lp + lo0 * pD p lp + pD p lp
  gap : Gap (pN p lp) (pD p lp)
  ge : 2 ^ 127 * pD p lp ≤ pN p lp
  lt : pN p lp ≤ (2 ^ 128 - 2 ^ 118) * pD p lp

/-- round, of an unrounded. -/
def urd (u : Nat) : Nat := (u + 1 + u / 4 % 2) / 4
theorem urd_rne (u : Nat) : urd u = rne u 4 := by unfold urd rne; split <;> omega

/-- The number d * 10^p. -/
def nN (d : Nat) (p : Int) : Nat := d * 10 ^ p.toNat
def nD (p : Int) : Nat := 10 ^ (-p).toNat
theorem nD_pos (p : Int) : 0 < nD p := Nat.pow_pos (by omega)

theorem lcan {g a b : Nat} (h : a = b) : g * a = g * b := by rw [h]

theorem parse64_num {p lp : Int} {d b s t x : Nat} {e : Int} (hb2 : b ≤ 64) (hx : x = d * 2 ^ (64 - b)) (hs : (s : Int) = -(e - (64 - (b : Int)) + lp + 3)) (ht : t = (1074 - e).toNat) (he : e ≤ 1074) :
    x * pN p lp * nD p * 2 ^ t = nN d p * (4 * (2 ^ 128 * pD p lp * 2 ^ s)) * S := by
  unfold pN pD nN nD
  have hkS := kS_eq
  have hS := S_eq
  generalize kS = K at *
  generalize S = SS at *
  subst hS
  rw [hx]
  have e1 : d * 2 ^ (64 - b) * (10 ^ p.toNat * 2 ^ (127 - lp).toNat) * 10 ^ (-p).toNat * 2 ^ t = d * 10 ^ p.toNat * 10 ^ (-p).toNat * 2 ^ ((64 - b) + (127 - lp).toNat + t) := by
    rw [Nat.pow_add 2 (64 - b + (127 - lp).toNat) t, Nat.pow_add 2 (64 - b) _]; ac_rfl
  have e2 : d * 10 ^ p.toNat * (4 * (2 ^ 128 * (10 ^ (-p).toNat * 2 ^ (-(127 - lp)).toNat) * 2 ^ s)) * 2 ^ K = d * 10 ^ p.toNat * 10 ^ (-p).toNat * 2 ^ (2 + 128 + (-(127 - lp)).toNat + s + K) := by
    rw [Nat.pow_add 2 (2 + 128 + (-(127 - lp)).toNat + s) K, Nat.pow_add 2 (2 + 128 + (-(127 - lp)).toNat) s, Nat.pow_add 2 (2 + 128) _, Nat.pow_add 2 2 128, show (2 : Nat) ^ 2 = 4 from rfl]
    generalize (2 : Nat) ^ 128 = z
    ac_rfl
  rw [e1, e2]
  refine lcan (congrArg _ ?_)
  omega

structure Pk (p : Int) (d : Nat) (u : Nat) (e : Int) : Prop where
  m53 : urd (if 36028797018963966 ≤ u then u / 2 ||| u % 2 else u) < 9007199254740992
  m52 : (if 36028797018963966 ≤ u then e - 1 else e) = 1074 ∨ 4503599627370496 ≤ urd (if 36028797018963966 ≤ u then u / 2 ||| u % 2 else u)
  rung : rung (nN d p) (nD p) = min ((1074 - (if 36028797018963966 ≤ u then e - 1 else e)).toNat * C + urd (if 36028797018963966 ≤ u then u / 2 ||| u % 2 else u)) infR

theorem parse64_law {p lp : Int} {hi0 lo0 d b s : Nat} {e : Int} (hc : Cert p lp hi0 lo0) (hb1 : 1 ≤ b) (hb2 : b ≤ 64) (hd1 : 2 ^ (b - 1) ≤ d) (hd2 : d < 2 ^ b)
    (he : e = min 1074 (53 - (b : Int) - lp)) (hs : (s : Int) = -(e - (64 - (b : Int)) + lp + 3)) :
    8 ≤ s ∧ (64 ≤ s → rung (nN d p) (nD p) = 0) ∧ Pk p d (stk (d * 2 ^ (64 - b) * pN p lp) (2 ^ 128 * pD p lp * 2 ^ s)) e := by
  have hs8 : 8 ≤ s := by omega
  have hPd := pD_pos p lp
  obtain ⟨x, hx⟩ : ∃ x, x = d * 2 ^ (64 - b) := ⟨_, rfl⟩
  have hx1 : 2 ^ 63 ≤ x := by
    rw [hx]
    refine Nat.le_trans (Nat.le_of_eq ?_) (Nat.mul_le_mul_right _ hd1)
    rw [← Nat.pow_add]; congr 1; omega
  have hx2 : x < 2 ^ 64 := by
    rw [hx]
    refine Nat.lt_of_lt_of_eq (Nat.mul_lt_mul_of_pos_right hd2 (Nat.two_pow_pos _)) ?_
    rw [← Nat.pow_add]; congr 1; omega
  obtain ⟨t, ht⟩ : ∃ t : Nat, t = (1074 - e).toNat := ⟨_, rfl⟩
  -- the number as a fraction
  have hv : x * pN p lp * nD p * 2 ^ t = nN d p * (4 * (2 ^ 128 * pD p lp * 2 ^ s)) * S := parse64_num hb2 hx hs ht (by omega)
  -- its bounds
  have hY1 : 2 ^ 63 * (2 ^ 127 * pD p lp) ≤ x * pN p lp := Nat.mul_le_mul hx1 hc.ge
  have hY2 : x * pN p lp < 2 ^ 64 * ((2 ^ 128 - 2 ^ 118) * pD p lp) := by
    refine Nat.lt_of_lt_of_le (Nat.mul_lt_mul_of_pos_right hx2 ?_) (Nat.mul_le_mul_left _ hc.lt)
    have := hc.ge
    have : 0 < 2 ^ 127 * pD p lp := Nat.mul_pos (Nat.two_pow_pos 127) hPd
    omega
  rw [← hx]
  generalize hYd : x * pN p lp = Y at *
  obtain ⟨q, hq⟩ : ∃ q, 2 ^ s = 256 * q ∧ (s = 8 → q = 1) ∧ 0 < q := by
    refine ⟨2 ^ (s - 8), ?_, ?_, Nat.two_pow_pos _⟩
    · rw [show (256 : Nat) = 2 ^ 8 from rfl, ← Nat.pow_add]; congr 1; omega
    · intro h; subst h; rfl
  obtain ⟨hq, hq8, hq0⟩ := hq
  have hMp := nD_pos p
  have hz1 : 2 ^ 63 * (2 ^ 127 * pD p lp) = 18014398509481984 * (2 ^ 128 * pD p lp * 256) := by
    generalize pD p lp = z; omega
  have hz2 : 2 ^ 64 * ((2 ^ 128 - 2 ^ 118) * pD p lp) = 71987225293750272 * (2 ^ 128 * pD p lp * 256) := by
    generalize pD p lp = z; omega
  rw [hz1] at hY1
  rw [hz2] at hY2
  have hGp : 0 < 2 ^ 128 * pD p lp * 256 := by
    have := Nat.mul_pos (Nat.two_pow_pos 128) hPd; omega
  have hF : 2 ^ 128 * pD p lp * 2 ^ s = 2 ^ 128 * pD p lp * 256 * q := by rw [hq]; ac_rfl
  have h64 : 64 ≤ s → 2 ^ 64 ≤ 2 ^ s := fun h => two_pow_le h
  rw [hF] at hv ⊢
  generalize hG : 2 ^ 128 * pD p lp * 256 = G at *
  have hFG : G ≤ G * q := Nat.le_mul_of_pos_right _ hq0
  have hFG1 : s = 8 → G * q = G := fun h => by rw [hq8 h, Nat.mul_one]
  have hF64 : 64 ≤ s → 72057594037927936 * G ≤ G * q := by
    intro h
    have h1 := h64 h
    have h2 : 72057594037927936 ≤ q := by omega
    rw [Nat.mul_comm]; exact Nat.mul_le_mul_left _ h2
  generalize hFF : G * q = F at *
  have hFp : 0 < F := by omega
  have ht8 : t = 0 ∨ s = 8 := by omega
  have hlo : t = 0 ∨ C * (4 * F) ≤ Y := by
    rcases ht8 with h | h
    · exact .inl h
    · right; rw [hFG1 h]
      rw [C_two]; omega
  have hDF : D * (4 * F) = 36028797018963968 * F := by rw [D_two]; omega
  have hR4 : Y < 36028797018963968 * F → rung (nN d p) (nD p) = min (t * C + urd (stk Y F)) infR := by
    intro h
    rw [rung_at hMp (by omega) hv (by rw [hDF]; exact h) hlo, urd_rne, show (4 : Nat) = 2 ^ 2 from rfl, rne_stk Y F 2 hFp (by omega), Nat.mul_comm F]
  have hv2 : Y * nD p * 2 ^ (t + 1) = nN d p * (8 * F) * S := by
    rw [Nat.pow_succ, ← Nat.mul_assoc, hv]
    generalize S = SS
    rw [show 8 * F = 4 * F * 2 by omega]; ac_rfl
  have hb := stk_ge (A := Y) (B := F) (n := 18014398509481983) hFp
  refine ⟨hs8, fun h => ?_, ?_⟩
  · have h1 := hF64 h
    have h2 : Y < F := by omega
    have ht0 : t = 0 := by omega
    rw [hR4 (by omega), ht0]
    have h3 := stk_le (A := Y) (B := F) (n := 1) hFp (by omega)
    have h4 : urd (stk Y F) = 0 := by unfold urd; omega
    rw [h4]; simp
  · obtain ⟨u, hu⟩ : ∃ u, u = stk Y F := ⟨_, rfl⟩
    rw [← hu] at hb hR4 ⊢
    by_cases hbig : 36028797018963966 ≤ u
    · have hYb := hb.1 hbig
      have e1 : (if 36028797018963966 ≤ u then u / 2 ||| u % 2 else u) = stk Y (2 * F) := by rw [if_pos hbig, hu]; exact stk_half Y F hFp
      have e2 : (if 36028797018963966 ≤ u then e - 1 else e) = e - 1 := if_pos hbig
      have ht1 : (1074 - (e - 1)).toNat = t + 1 := by omega
      have hu2 := stk_le (A := Y) (B := 2 * F) (n := 17996806323437568) (by omega) (by omega)
      have hbig2 : Y / (2 * F) ≤ stk Y (2 * F) := by rw [← or_stk Y (2 * F) (by omega)]; exact Nat.left_le_or
      have hdiv : 18014398509481983 ≤ Y / (2 * F) := by rw [Nat.le_div_iff_mul_le (by omega)]; omega
      obtain ⟨u2, hu2d⟩ : ∃ u2, u2 = stk Y (2 * F) := ⟨_, rfl⟩
      refine ⟨?_, ?_, ?_⟩
      · rw [e1]; unfold urd; omega
      · right; rw [e1]; rw [← hu2d] at hbig2 ⊢; unfold urd; omega
      · rw [e1, e2, ht1]
        by_cases h52 : 36028797018963968 * F ≤ Y
        · rw [rung_at hMp (b := 8 * F) (by omega) hv2 (by rw [D_two]; omega) (.inr (by rw [C_two]; omega)), urd_rne, show (4 : Nat) = 2 ^ 2 from rfl, rne_stk Y (2 * F) 2 (by omega) (by omega)]
          congr 3
          omega
        · rw [hR4 (by omega)]
          have h1 := stk_le (A := Y) (B := F) (n := 18014398509481984) hFp (by omega)
          have h2 := stk_le (A := Y) (B := 2 * F) (n := 9007199254740992) (by omega) (by omega)
          have f1 : urd u = 9007199254740992 := by rw [← hu] at h1; unfold urd; omega
          have f2 : urd (stk Y (2 * F)) = 4503599627370496 := by rw [← hu2d] at hbig2 h2 ⊢; unfold urd; omega
          have hC : C = 4503599627370496 := C_two
          have f3 : ∀ c : Nat, c = 4503599627370496 → t * c + 9007199254740992 = (t + 1) * c + 4503599627370496 := fun c hc => by rw [Nat.add_mul]; omega
          rw [f1, f2, f3 C hC]
    · have hYs : ¬ (2 * 18014398509481983 * F ≤ Y) := fun h => hbig (hb.2 h)
      have e1 : (if 36028797018963966 ≤ u then u / 2 ||| u % 2 else u) = u := if_neg hbig
      have e2 : (if 36028797018963966 ≤ u then e - 1 else e) = e := if_neg hbig
      refine ⟨?_, ?_, ?_⟩
      · rw [e1]; unfold urd; omega
      · rw [e1, e2]
        rcases hlo with h | h
        · left; omega
        · right
          rw [C_two] at h
          have h1 := (stk_ge (A := Y) (B := F) (n := 9007199254740992) hFp).2 (by omega)
          rw [← hu] at h1
          unfold urd; omega
      · rw [e1, e2, hR4 (by omega), ← ht]
end Go.Proofs.YtknjgopapbemcaaGreatDoor
