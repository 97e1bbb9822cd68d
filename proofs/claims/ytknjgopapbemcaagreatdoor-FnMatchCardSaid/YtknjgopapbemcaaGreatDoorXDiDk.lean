/- Di Dj Dk: joined by merge.py for the claim. -/
import Derived.Test.YtknjgopapbemcaaGreatDoorXDcDf
/- The law of lost digits: a value known but for what is cut off. Plain. -/
namespace Go.Proofs.YtknjgopapbemcaaGreatDoor
set_option linter.unusedVariables false
set_option linter.unusedSimpArgs false
theorem le_shift {A B x y x' y' : Nat} (h : A * 2 ^ x ≤ B * 2 ^ y) (hxy : x + y' = x' + y) : A * 2 ^ x' ≤ B * 2 ^ y' := by
  have hp : 0 < 2 ^ y := Nat.two_pow_pos y
  apply Nat.le_of_mul_le_mul_right (c := 2 ^ y) _ hp
  calc A * 2 ^ x' * 2 ^ y = A * 2 ^ x * 2 ^ y' := by rw [Nat.mul_assoc, ← Nat.pow_add, ← hxy, Nat.pow_add, Nat.mul_assoc]
    _ ≤ B * 2 ^ y * 2 ^ y' := Nat.mul_le_mul_right _ h
    _ = B * 2 ^ y' * 2 ^ y := by ac_rfl
theorem lt_shift {A B x y x' y' : Nat} (h : A * 2 ^ x < B * 2 ^ y) (hxy : x + y' = x' + y) : A * 2 ^ x' < B * 2 ^ y' := by
  apply Nat.lt_of_not_le
  intro h2
  have := le_shift (x' := y) (y' := x) h2 (by omega)
  omega
/-- N / M is no half of a small whole number. -/
def NoTie (N M : Nat) : Prop := ∀ m t, m < 2 ^ 55 → N * 2 ^ (kS + 1) ≠ M * m * 2 ^ t
/-- a / b times 2^e is N / M, but for c parts of K. -/
structure Ap (K c a b : Nat) (e : Int) (N M : Nat) (tr : Bool) : Prop where
  lo : a * M * 2 ^ e.toNat ≤ N * b * 2 ^ (-e).toNat
  hi : N * b * (K - c) * 2 ^ (-e).toNat ≤ a * M * K * 2 ^ e.toNat
  ex : tr = false → a * M * 2 ^ e.toNat = N * b * 2 ^ (-e).toNat
  nt : tr = true → NoTie N M ∧ a * M * 2 ^ e.toNat < N * b * 2 ^ (-e).toNat
theorem Ap.wide {K c c' a b N M : Nat} {e : Int} {tr : Bool} (h : Ap K c a b e N M tr) (hc : c ≤ c') : Ap K c' a b e N M tr :=
  ⟨h.lo, Nat.le_trans (Nat.mul_le_mul_right _ (Nat.mul_le_mul_left _ (by omega))) h.hi, h.ex, h.nt⟩
theorem le_step {a b a' b' N M x y i j : Nat} (hb : 0 < b) (h : a * M * 2 ^ x ≤ N * b * 2 ^ y) (hs : a' * 2 ^ i * b = a * 2 ^ j * b') : a' * M * 2 ^ (x + i) ≤ N * b' * 2 ^ (y + j) := by
  apply Nat.le_of_mul_le_mul_right (c := b) _ hb
  calc a' * M * 2 ^ (x + i) * b = a' * 2 ^ i * b * (M * 2 ^ x) := by rw [Nat.pow_add]; ac_rfl
    _ = a * M * 2 ^ x * (2 ^ j * b') := by rw [hs]; ac_rfl
    _ ≤ N * b * 2 ^ y * (2 ^ j * b') := Nat.mul_le_mul_right _ h
    _ = N * b' * 2 ^ (y + j) * b := by rw [Nat.pow_add]; ac_rfl
theorem ge_step {a b a' b' N M x y i j : Nat} (hb : 0 < b) (h : N * b * 2 ^ y ≤ a * M * 2 ^ x) (hs : a' * 2 ^ i * b = a * 2 ^ j * b') : N * b' * 2 ^ (y + j) ≤ a' * M * 2 ^ (x + i) := by
  apply Nat.le_of_mul_le_mul_right (c := b) _ hb
  calc N * b' * 2 ^ (y + j) * b = N * b * 2 ^ y * (2 ^ j * b') := by rw [Nat.pow_add]; ac_rfl
    _ ≤ a * M * 2 ^ x * (2 ^ j * b') := Nat.mul_le_mul_right _ h
    _ = a' * 2 ^ i * b * (M * 2 ^ x) := by rw [hs]; ac_rfl
    _ = a' * M * 2 ^ (x + i) * b := by rw [Nat.pow_add]; ac_rfl
theorem lt_step {a b a' b' N M x y i j : Nat} (hb : 0 < b) (hb' : 0 < b') (h : a * M * 2 ^ x < N * b * 2 ^ y) (hs : a' * 2 ^ i * b = a * 2 ^ j * b') : a' * M * 2 ^ (x + i) < N * b' * 2 ^ (y + j) := by
  apply Nat.lt_of_not_le
  intro h2
  have h3 := ge_step hb' h2 (a' := a) (b' := b) (i := j) (j := i) hs.symm
  have h4 := le_shift (x' := y) (y' := x) h3 (by omega)
  omega
/-- From one fraction to another that is 2^(j-i) times it. -/
theorem Ap.step {K c a b a' b' N M i j : Nat} {e e' : Int} {tr : Bool} (h : Ap K c a b e N M tr) (hb : 0 < b) (hb' : 0 < b') (hs : a' * 2 ^ i * b = a * 2 ^ j * b') (he : e' = e + i - j) : Ap K c a' b' e' N M tr := by
  subst he
  refine ⟨?_, ?_, fun ht => ?_, fun ht => ⟨(h.nt ht).1, ?_⟩⟩
  · exact le_shift (le_step hb h.lo hs) (by omega)
  · have h1 : N * (K - c) * b * 2 ^ (-e).toNat ≤ a * (M * K) * 2 ^ e.toNat := by
      have := h.hi
      rw [show N * (K - c) * b = N * b * (K - c) by ac_rfl, show a * (M * K) = a * M * K by ac_rfl]; exact this
    have h2 := le_shift (x' := (-(e + i - j)).toNat) (y' := (e + i - j).toNat) (ge_step hb h1 hs) (by omega)
    rw [show N * b' * (K - c) = N * (K - c) * b' by ac_rfl, show a' * M * K = a' * (M * K) by ac_rfl]; exact h2
  · have h1 := le_shift (x' := (e + i - j).toNat) (y' := (-(e + i - j)).toNat) (le_step hb (Nat.le_of_eq (h.ex ht)) hs) (by omega)
    have h2 := le_shift (x' := (-(e + i - j)).toNat) (y' := (e + i - j).toNat) (ge_step hb (Nat.le_of_eq (h.ex ht).symm) hs) (by omega)
    omega
  · exact lt_shift (lt_step hb hb' (h.nt ht).2 hs) (by omega)
/-- Digits are cut off. -/
theorem Ap.cut {K c a b a' b' N M : Nat} {e : Int} {tr : Bool} (h : Ap K c a b e N M tr) (hK : 0 < K) (hM : 0 < M) (hb : 0 < b) (hb' : 0 < b') (h1 : a' * b < a * b') (h2 : a * b' * (K - 1) ≤ a' * b * K) (hn : NoTie N M) :
    Ap K (c + 1) a' b' e N M true := by
  have hlt : a' * M * 2 ^ e.toNat < N * b' * 2 ^ (-e).toNat := by
    apply Nat.lt_of_mul_lt_mul_right (a := b)
    calc a' * M * 2 ^ e.toNat * b = a' * b * (M * 2 ^ e.toNat) := by ac_rfl
      _ < a * b' * (M * 2 ^ e.toNat) := Nat.mul_lt_mul_of_pos_right h1 (Nat.mul_pos hM (Nat.two_pow_pos _))
      _ = a * M * 2 ^ e.toNat * b' := by ac_rfl
      _ ≤ N * b * 2 ^ (-e).toNat * b' := Nat.mul_le_mul_right _ h.lo
      _ = N * b' * 2 ^ (-e).toNat * b := by ac_rfl
  refine ⟨Nat.le_of_lt hlt, ?_, fun ht => by simp at ht, fun _ => ⟨hn, hlt⟩⟩
  have key : (K - (c + 1)) * K ≤ (K - c) * (K - 1) := by
    rcases Nat.lt_or_ge K (c + 1) with hc | hc
    · rw [show K - (c + 1) = 0 by omega, Nat.zero_mul]; exact Nat.zero_le _
    · obtain ⟨z, rfl⟩ : ∃ z, K = z + c + 1 := ⟨K - (c + 1), by omega⟩
      rw [show z + c + 1 - (c + 1) = z by omega, show z + c + 1 - c = z + 1 by omega, Nat.add_sub_cancel]
      rw [Nat.mul_add, Nat.mul_add, Nat.add_mul, Nat.mul_add]
      omega
  apply Nat.le_of_mul_le_mul_right (c := b * K) _ (Nat.mul_pos hb hK)
  calc N * b' * (K - (c + 1)) * 2 ^ (-e).toNat * (b * K) = N * b' * b * 2 ^ (-e).toNat * ((K - (c + 1)) * K) := by ac_rfl
    _ ≤ N * b' * b * 2 ^ (-e).toNat * ((K - c) * (K - 1)) := Nat.mul_le_mul_left _ key
    _ = N * b * (K - c) * 2 ^ (-e).toNat * (b' * (K - 1)) := by ac_rfl
    _ ≤ a * M * K * 2 ^ e.toNat * (b' * (K - 1)) := Nat.mul_le_mul_right _ h.hi
    _ = a * b' * (K - 1) * (M * K * 2 ^ e.toNat) := by ac_rfl
    _ ≤ a' * b * K * (M * K * 2 ^ e.toNat) := Nat.mul_le_mul_right _ h2
    _ = a' * M * K * 2 ^ e.toNat * (b * K) := by ac_rfl
/-- How far N / M lies from small whole numbers times powers of two. -/
structure GapOk (N M : Nat) : Prop where
  n : N < 10 ^ 310 * M
  m : M ≤ 10 ^ 740
  mn : M ≤ N → M ≤ 10 ^ 400
set_option exponentiation.threshold 4000 in
theorem gap_num {c Z K : Nat} (hc : c ≤ 5000) (hz : Z ≤ 10 ^ 770) (hK : K = 10 ^ 799) : c * (Z + 1) < K := by
  have h1 : c * (Z + 1) ≤ 5000 * (10 ^ 770 + 1) := Nat.mul_le_mul hc (by omega)
  have h2 : 5000 * (10 ^ 770 + 1) < 10 ^ 799 := by
    rw [show 799 = 29 + 770 by rfl, Nat.pow_add]
    have hp : 0 < 10 ^ 770 := Nat.pow_pos (by omega)
    have e29 : 10 ^ 29 = 100000000000000000000000000000 := rfl
    rw [e29]
    generalize 10 ^ 770 = T at *
    omega
  rw [hK]; omega
set_option exponentiation.threshold 4000 in
theorem ap_lt {K c a b N M m t x y : Nat} {e : Int} {tr : Bool} (h : Ap K c a b e N M tr) (hg : GapOk N M) (hc : c ≤ 5000) (hK : K = 10 ^ 799) (hb : 0 < b) (hM : 0 < M) (hm : m < 2 ^ 55) (hxy : (x : Int) - y = e)
    {T : Nat} (hT : T = kS + 1) (hv : a * 2 ^ (x + T) < m * b * 2 ^ (t + y)) : N * 2 ^ T < M * m * 2 ^ t := by
  cases tr with
  | false =>
    clear hT
    have h1 : N * b * 2 ^ y = a * M * 2 ^ x := by
      have h0 := h.ex rfl
      have e1 := le_shift (x' := x) (y' := y) (Nat.le_of_eq h0) (by omega)
      have e2 := le_shift (x' := y) (y' := x) (Nat.le_of_eq h0.symm) (by omega)
      omega
    apply Nat.lt_of_mul_lt_mul_right (a := b * 2 ^ y)
    calc N * 2 ^ T * (b * 2 ^ y) = N * b * 2 ^ y * 2 ^ T := by ac_rfl
      _ = a * 2 ^ (x + T) * M := by rw [h1, Nat.pow_add]; ac_rfl
      _ < m * b * 2 ^ (t + y) * M := Nat.mul_lt_mul_of_pos_right hv hM
      _ = M * m * 2 ^ t * (b * 2 ^ y) := by rw [Nat.pow_add]; ac_rfl
  | true =>
    obtain ⟨hn, hlt⟩ := h.nt rfl
    apply Nat.lt_of_not_le
    intro hge
    have hne := hn m t hm
    rw [← hT] at hne
    clear hT hn
    have hstrict : M * m * 2 ^ t < N * 2 ^ T := by omega
    -- divide by the common power of two
    obtain ⟨g, hgt, hgk, hone⟩ : ∃ g, g ≤ t ∧ g ≤ T ∧ (g = t ∨ g = T) := by
      rcases Nat.le_total t T with h | h
      · exact ⟨t, Nat.le_refl _, h, .inl rfl⟩
      · exact ⟨T, h, Nat.le_refl _, .inr rfl⟩
    obtain ⟨p, hp⟩ : ∃ p, T = p + g := ⟨T - g, by omega⟩
    obtain ⟨q, hq⟩ : ∃ q, t = q + g := ⟨t - g, by omega⟩
    have hs2 : M * m * 2 ^ q < N * 2 ^ p := by
      apply Nat.lt_of_mul_lt_mul_right (a := 2 ^ g)
      rw [Nat.mul_assoc (M * m), ← Nat.pow_add, ← hq, Nat.mul_assoc N, ← Nat.pow_add, ← hp]; exact hstrict
    have hv2 : a * 2 ^ x * 2 ^ p < m * 2 ^ q * b * 2 ^ y := by
      apply Nat.lt_of_mul_lt_mul_right (a := 2 ^ g)
      calc a * 2 ^ x * 2 ^ p * 2 ^ g = a * 2 ^ (x + T) := by rw [hp, Nat.pow_add, Nat.pow_add]; ac_rfl
        _ < m * b * 2 ^ (t + y) := hv
        _ = m * 2 ^ q * b * 2 ^ y * 2 ^ g := by rw [hq, Nat.pow_add, Nat.pow_add]; ac_rfl
    have hhi : N * b * (K - c) * 2 ^ y ≤ a * M * K * 2 ^ x := le_shift h.hi (by omega)
    have hKp : 0 < K := by rw [hK]; exact Nat.pow_pos (by omega)
    have h3 : N * 2 ^ p * (K - c) < m * 2 ^ q * M * K := by
      apply Nat.lt_of_mul_lt_mul_right (a := b * 2 ^ y)
      calc N * 2 ^ p * (K - c) * (b * 2 ^ y) = N * b * (K - c) * 2 ^ y * 2 ^ p := by ac_rfl
        _ ≤ a * M * K * 2 ^ x * 2 ^ p := Nat.mul_le_mul_right _ hhi
        _ = a * 2 ^ x * 2 ^ p * (M * K) := by ac_rfl
        _ < m * 2 ^ q * b * 2 ^ y * (M * K) := Nat.mul_lt_mul_of_pos_right hv2 (Nat.mul_pos hM hKp)
        _ = m * 2 ^ q * M * K * (b * 2 ^ y) := by ac_rfl
    obtain ⟨Z, hZ⟩ : ∃ Z, Z = M * m * 2 ^ q := ⟨_, rfl⟩
    rw [← hZ] at hs2
    rw [show m * 2 ^ q * M = Z by rw [hZ]; ac_rfl] at h3
    have h4 : (Z + 1) * (K - c) < Z * K := Nat.lt_of_le_of_lt (Nat.mul_le_mul_right _ hs2) h3
    have hZb : Z ≤ 10 ^ 770 := by
      rcases hone with h | h
      · have hq0 : q = 0 := by omega
        rw [hZ, hq0, Nat.pow_zero, Nat.mul_one]
        have h55 : (2 : Nat) ^ 55 ≤ 10 ^ 17 := by decide
        calc M * m ≤ 10 ^ 740 * 10 ^ 17 := Nat.mul_le_mul hg.m (by omega)
          _ = 10 ^ 757 := by rw [← Nat.pow_add]
          _ ≤ 10 ^ 770 := Nat.pow_le_pow_right (by omega) (by omega)
      · have hp0 : p = 0 := by omega
        rw [hp0, Nat.pow_zero, Nat.mul_one] at hs2
        rcases Nat.eq_zero_or_pos m with h0 | h0
        · rw [hZ, h0, Nat.mul_zero, Nat.zero_mul]; exact Nat.zero_le _
        · have hMZ : M ≤ Z := by
            rw [hZ, Nat.mul_assoc]
            exact Nat.le_mul_of_pos_right _ (Nat.mul_pos h0 (Nat.two_pow_pos _))
          have hM4 := hg.mn (by omega)
          have hn3 := hg.n
          have : N ≤ 10 ^ 310 * 10 ^ 400 := Nat.le_trans (Nat.le_of_lt hn3) (Nat.mul_le_mul_left _ hM4)
          rw [← Nat.pow_add] at this
          have h2 : 10 ^ (310 + 400) ≤ 10 ^ 770 := Nat.pow_le_pow_right (by omega) (by omega)
          exact Nat.le_trans (Nat.le_of_lt hs2) (Nat.le_trans this h2)
    have h5 := gap_num hc hZb hK
    -- (Z + 1) (K - c) < Z K  ⇒  K < c (Z + 1)
    rcases Nat.lt_or_ge K c with hKc | hKc
    · have : c * 1 ≤ c * (Z + 1) := Nat.mul_le_mul_left _ (by omega)
      omega
    · have e1 : (Z + 1) * (K - c) + (Z + 1) * c = (Z + 1) * K := by rw [← Nat.mul_add]; congr 1; omega
      have e2 : (Z + 1) * K = Z * K + K := by rw [Nat.add_mul, Nat.one_mul]
      have e3 : (Z + 1) * c = c * (Z + 1) := Nat.mul_comm _ _
      omega
end Go.Proofs.YtknjgopapbemcaaGreatDoor
/- The law of lost digits: one shift. Plain. -/
namespace Go.Proofs.YtknjgopapbemcaaGreatDoor
set_option linter.unusedVariables false
set_option linter.unusedSimpArgs false
theorem trimD_pre (ds : List Nat) (n : Nat) : ∀ m, m ≤ n → trimD (ds.take n) m = trimD ds m := by
  intro m
  induction m with
  | zero => intro _; rfl
  | succ m ih =>
    intro h
    rw [trimD, trimD, dg_take (by omega), ih (by omega), List.take_take, Nat.min_eq_left h]
theorem trimD_zero (ds : List Nat) {n : Nat} (hz : ∀ i, n ≤ i → dg ds i = 0) : ∀ m, n ≤ m → trimD ds m = trimD ds n := by
  intro m
  induction m with
  | zero => intro h; rw [show n = 0 by omega]
  | succ m ih =>
    intro h
    rcases Nat.lt_or_ge m n with h1 | h1
    · rw [show n = m + 1 by omega]
    · rw [trimD, if_pos (hz m h1)]; exact ih h1
theorem trimD_ge (ds : List Nat) {i : Nat} (hi : dg ds i ≠ 0) : ∀ m, i < m → m ≤ ds.length → ∃ j, i < j ∧ j ≤ m ∧ trimD ds m = ds.take j := by
  intro m
  induction m with
  | zero => intro h; omega
  | succ m ih =>
    intro h hm
    rw [trimD]
    by_cases hz : dg ds m = 0
    · rw [if_pos hz]
      have : i ≠ m := by intro e; rw [e] at hi; exact hi hz
      obtain ⟨j, h1, h2, h3⟩ := ih (by omega) (by omega)
      exact ⟨j, h1, by omega, h3⟩
    · rw [if_neg hz]; exact ⟨m + 1, h, Nat.le_refl _, rfl⟩
theorem dg_drop (ds : List Nat) (n i : Nat) : dg (ds.drop n) i = dg ds (n + i) := by
  unfold dg
  rw [List.getD_eq_getElem?_getD, List.getD_eq_getElem?_getD, List.getElem?_drop]
theorem nz_false {l : List Nat} (h : nz l = false) (i : Nat) : dg l i = 0 := by
  rcases Nat.lt_or_ge i l.length with hi | hi
  · rw [dg_lt hi]
    unfold nz at h
    rw [List.any_eq_false] at h
    have := h _ (List.getElem_mem hi)
    simpa using this
  · exact dg_end hi
theorem nz_true {l : List Nat} (h : nz l = true) : ∃ i, i < l.length ∧ dg l i ≠ 0 := by
  unfold nz at h
  rw [List.any_eq_true] at h
  obtain ⟨x, hx, h2⟩ := h
  obtain ⟨i, hi, rfl⟩ := List.getElem_of_mem hx
  exact ⟨i, hi, by rw [dg_lt hi]; simpa using h2⟩
/-- What is left of a row of digits. -/
def keep (O : List Nat) : List Nat := trimD (O.take 800) (O.take 800).length
theorem vd_take {L : Nat} {O : List Nat} (h : Vd L O) : Vd 800 (O.take 800) := by
  refine ⟨by rw [List.length_take]; have := h.pos; omega, by rw [List.length_take]; omega, dig_take h.dig 800, ?_⟩
  rw [dg_take (by omega)]; exact h.first
theorem keep_vd {L : Nat} {O : List Nat} (h : Vd L O) : Vd 800 (keep O) ∧ 0 < dg (keep O) ((keep O).length - 1) := by
  obtain ⟨a, b, _⟩ := trimD_vd (vd_take h)
  exact ⟨a, b⟩
theorem keep_all {L : Nat} {O : List Nat} (h : Vd L O) (hz : nz (O.drop 800) = false) : keep O = trimD O O.length := by
  unfold keep
  have hz2 : ∀ i, 800 ≤ i → dg O i = 0 := by
    intro i hi
    have := nz_false hz (i - 800)
    rw [dg_drop, show 800 + (i - 800) = i by omega] at this
    exact this
  rw [List.length_take]
  rcases Nat.le_total O.length 800 with hl | hl
  · rw [Nat.min_eq_right hl, List.take_of_length_le hl]
  · rw [Nat.min_eq_left hl, trimD_pre O 800 800 (Nat.le_refl _), trimD_zero O hz2 O.length hl]
theorem keep_cut {L : Nat} {O : List Nat} (h : Vd L O) (hz : nz (O.drop 800) = true) : 800 < (trimD O O.length).length ∧ keep O = keep (trimD O O.length) := by
  obtain ⟨i, hi, hd⟩ := nz_true hz
  rw [dg_drop] at hd
  rw [List.length_drop] at hi
  obtain ⟨j, h1, h2, h3⟩ := trimD_ge O hd O.length (by omega) (Nat.le_refl _)
  have hl : (O.take j).length = j := by rw [List.length_take]; omega
  refine ⟨by rw [h3, hl]; omega, ?_⟩
  unfold keep
  rw [h3, List.take_take, Nat.min_eq_left (by omega)]
set_option exponentiation.threshold 4000 in
/-- What the cut digits are worth. -/
theorem keep_frac {L : Nat} {E : List Nat} (h : Vd L E) (hl : 0 < dg E (E.length - 1)) (h8 : 800 < E.length) (dp : Int) {K : Nat} (hK : K = 10 ^ 799) :
    vn (keep E) dp * vd E dp < vn E dp * vd (keep E) dp ∧ vn E dp * vd (keep E) dp * (K - 1) ≤ vn (keep E) dp * vd E dp * K := by
  obtain ⟨U, hU⟩ : ∃ U, U = E.take 800 := ⟨_, rfl⟩
  have vU : Vd 800 U := by rw [hU]; exact vd_take h
  have hUl : U.length = 800 := by rw [hU, List.length_take]; omega
  obtain ⟨t1, t2, j, t3, t4⟩ := trimD_vd vU
  have ek : keep E = trimD U U.length := by unfold keep; rw [hU]
  rw [ek]
  generalize trimD U U.length = V at *
  -- the trimmed row is worth the same
  have e1 : vn V dp * vd U dp = vn U dp * vd V dp := by
    unfold vn vd
    refine num_eq (a := j) (b := 0) (by rw [← t4]; simp) (by omega)
  -- the cut
  obtain ⟨r, hr⟩ : ∃ r, E.length = 800 + r := ⟨E.length - 800, by omega⟩
  have hs := dn_split (ds := E) (n := 800) (by omega)
  rw [← hU, show E.length - 800 = r by omega] at hs
  have hρ := dn_drop_lt h.dig r 800 (by omega)
  have hρ0 := dn_drop_pos hl (j := 800) h8
  have hlo := dn_lo h
  generalize dn (E.drop 800) = ρ at *
  have key : ∃ p, vn E dp * vd U dp = dn E * 10 ^ p ∧ vn U dp * vd E dp = dn U * 10 ^ r * 10 ^ p := by
    refine ⟨(dp - E.length).toNat + (-(dp - (U.length : Int))).toNat, ?_, ?_⟩
    · unfold vn vd num den; rw [Nat.mul_assoc, ← Nat.pow_add]
    · unfold vn vd num den; rw [Nat.mul_assoc, ← Nat.pow_add, Nat.mul_assoc, ← Nat.pow_add]; congr 2; omega
  obtain ⟨p, k1, k2⟩ := key
  have hT : 0 < 10 ^ p := Nat.pow_pos (by omega)
  have hu := vd_pos U dp
  have hv := vd_pos V dp
  have c1 : vn U dp * vd E dp < vn E dp * vd U dp := by
    rw [k1, k2]; exact Nat.mul_lt_mul_of_pos_right (by omega) hT
  have c2 : vn E dp * vd U dp * (K - 1) ≤ vn U dp * vd E dp * K := by
    rw [k1, k2, hs]
    have hK0 : 0 < K := by rw [hK]; exact Nat.pow_pos (by omega)
    have hρK : ρ * K ≤ dn U * 10 ^ r + ρ := by
      rw [← hs]
      have : ρ * K ≤ 10 ^ r * 10 ^ 799 := Nat.mul_le_mul (Nat.le_of_lt hρ) (by omega)
      rw [← Nat.pow_add, show r + 799 = E.length - 1 by omega] at this
      omega
    generalize dn U * 10 ^ r = A at *
    have : (A + ρ) * (K - 1) ≤ A * K := by
      have e2 : (A + ρ) * (K - 1) + (A + ρ) = (A + ρ) * K := by
        obtain ⟨z, rfl⟩ : ∃ z, K = z + 1 := ⟨K - 1, by omega⟩
        rw [Nat.add_sub_cancel, Nat.mul_add (A + ρ), Nat.mul_one]
      rw [Nat.add_mul] at e2
      rw [Nat.add_mul]; rw [Nat.add_mul A ρ K] at e2
      omega
    calc (A + ρ) * 10 ^ p * (K - 1) = (A + ρ) * (K - 1) * 10 ^ p := by ac_rfl
      _ ≤ A * K * 10 ^ p := Nat.mul_le_mul_right _ this
      _ = A * 10 ^ p * K := by ac_rfl
  constructor
  · apply Nat.lt_of_mul_lt_mul_right (a := vd U dp)
    calc vn V dp * vd E dp * vd U dp = vn V dp * vd U dp * vd E dp := by ac_rfl
      _ = vn U dp * vd E dp * vd V dp := by rw [e1]; ac_rfl
      _ < vn E dp * vd U dp * vd V dp := Nat.mul_lt_mul_of_pos_right c1 hv
      _ = vn E dp * vd V dp * vd U dp := by ac_rfl
  · apply Nat.le_of_mul_le_mul_right (c := vd U dp) _ hu
    calc vn E dp * vd V dp * (K - 1) * vd U dp = vn E dp * vd U dp * (K - 1) * vd V dp := by ac_rfl
      _ ≤ vn U dp * vd E dp * K * vd V dp := Nat.mul_le_mul_right _ c2
      _ = vn V dp * vd U dp * vd E dp * K := by rw [e1]; ac_rfl
      _ = vn V dp * vd E dp * K * vd U dp := by ac_rfl
set_option exponentiation.threshold 4000 in
theorem pw5 (z : Nat) (h : z ≤ 310) : 5 ^ z ≤ 2 ^ 745 := by
  have h1 : 5 ^ z ≤ 5 ^ 310 := Nat.pow_le_pow_right (by omega) h
  have h2 : (5 ^ 31) ^ 10 ≤ (2 ^ 74) ^ 10 := Nat.pow_le_pow_left (by decide) 10
  rw [← Nat.pow_mul, ← Nat.pow_mul] at h2
  exact Nat.le_trans h1 (Nat.le_trans h2 (two_pow_le (by omega)))
/-- A row of more than 800 digits is no half of a small whole number. -/
theorem notie {L : Nat} {E : List Nat} {dp e : Int} {N M : Nat} (h : Vd L E) (hl : 0 < dg E (E.length - 1)) (h8 : 800 < E.length) (hdp : dp ≤ 400) (hM : 0 < M)
    (hx : vn E dp * M * 2 ^ e.toNat = N * vd E dp * 2 ^ (-e).toNat) (hbig : e ≤ 35 ∨ vd E dp ≤ vn E dp * 2 ^ 100) : NoTie N M := by
  intro m t hm hcon
  obtain ⟨T, hT⟩ : ∃ T, T = kS + 1 := ⟨_, rfl⟩
  rw [← hT] at hcon
  have hT2 : T = 1075 := hT
  clear hT
  obtain ⟨q, hq⟩ : ∃ q : Nat, (q : Int) = E.length - dp := ⟨(E.length - dp).toNat, by omega⟩
  have ea : vn E dp = dn E := by unfold vn num; rw [show (dp - (E.length : Int)).toNat = 0 by omega, Nat.pow_zero, Nat.mul_one]
  have eb : vd E dp = 10 ^ q := by unfold vd den; congr 1; omega
  rw [ea, eb] at hx hbig
  obtain ⟨x, hxe⟩ : ∃ x, x = e.toNat := ⟨_, rfl⟩
  obtain ⟨y, hye⟩ : ∃ y, y = (-e).toNat := ⟨_, rfl⟩
  rw [← hxe, ← hye] at hx
  -- dn E * 2^(x + T) = m * 10^q * 2^(t + y)
  have h1 : dn E * 2 ^ (x + T) = m * 5 ^ q * 2 ^ (q + t + y) := by
    apply Nat.eq_of_mul_eq_mul_right hM
    calc dn E * 2 ^ (x + T) * M = dn E * M * 2 ^ x * 2 ^ T := by rw [Nat.pow_add]; ac_rfl
      _ = N * 2 ^ T * (10 ^ q * 2 ^ y) := by rw [hx]; ac_rfl
      _ = m * 10 ^ q * 2 ^ (t + y) * M := by rw [hcon, Nat.pow_add]; ac_rfl
      _ = m * 5 ^ q * 2 ^ (q + t + y) * M := by rw [show (10 : Nat) = 5 * 2 by rfl, Nat.mul_pow, Nat.pow_add, Nat.pow_add, Nat.pow_add]; ac_rfl
  have hlast : dn E % 10 = dg E (E.length - 1) := by
    have e1 : E = E.take (E.length - 1) ++ [dg E (E.length - 1)] := by
      have := take_snoc_dg (l := E) (i := E.length - 1) (by omega)
      rw [show E.length - 1 + 1 = E.length by omega, List.take_length] at this
      exact this
    have e2 := dn_snoc (E.take (E.length - 1)) (dg E (E.length - 1))
    rw [← e1] at e2
    have := h.dig (E.length - 1)
    rw [e2]; omega
  have hlo := dn_lo h
  rcases Nat.lt_or_ge (x + T) (q + t + y) with hlt | hge
  · -- then 10 divides
    obtain ⟨d, hd⟩ : ∃ d, q + t + y = d + 1 + (x + T) := ⟨q + t + y - (x + T) - 1, by omega⟩
    rw [hd, Nat.pow_add 2 (d + 1) (x + T), ← Nat.mul_assoc] at h1
    have h2 := Nat.eq_of_mul_eq_mul_right (Nat.two_pow_pos _) h1
    obtain ⟨q', rfl⟩ : ∃ q', q = q' + 1 := ⟨q - 1, by omega⟩
    have : dn E = 10 * (m * 5 ^ q' * 2 ^ d) := by rw [h2, Nat.pow_succ, Nat.pow_succ]; rw [show (10 : Nat) = 5 * 2 by rfl]; ac_rfl
    omega
  · obtain ⟨d, hd⟩ : ∃ d, x + T = d + (q + t + y) := ⟨x + T - (q + t + y), by omega⟩
    rw [hd, Nat.pow_add 2 d (q + t + y), ← Nat.mul_assoc] at h1
    have h2 := Nat.eq_of_mul_eq_mul_right (Nat.two_pow_pos _) h1
    -- dn E * 2^d = m * 5^q
    have h3 : dn E * 2 ^ (d + q) = m * 10 ^ q := by rw [Nat.pow_add, ← Nat.mul_assoc, h2, show (10 : Nat) = 5 * 2 by rfl, Nat.mul_pow]; ac_rfl
    have h4 : 10 ^ (E.length - 1) * 2 ^ (d + q) < 2 ^ 55 * 10 ^ q := by
      refine Nat.lt_of_le_of_lt (Nat.mul_le_mul_right _ hlo) ?_
      rw [h3]; exact Nat.mul_lt_mul_of_pos_right hm (Nat.pow_pos (by omega))
    have hj : 1111 ≤ d + q := by
      rcases Int.lt_or_le 0 dp with hp | hp
      · exfalso
        obtain ⟨z, hz⟩ : ∃ z : Nat, E.length - 1 = z + q := ⟨(E.length - 1) - q, by omega⟩
        rw [hz, Nat.pow_add, Nat.mul_right_comm] at h4
        have h5 := Nat.lt_of_mul_lt_mul_right h4
        have h6 : 2 ^ (d + q) ≤ 10 ^ z * 2 ^ (d + q) := Nat.le_mul_of_pos_left _ (Nat.pow_pos (by omega))
        have h7 : 2 ^ 55 ≤ 2 ^ (d + q) := two_pow_le (by omega)
        omega
      · obtain ⟨z, hz⟩ : ∃ z : Nat, q = z + (E.length - 1) := ⟨q - (E.length - 1), by omega⟩
        have h4' : 10 ^ (E.length - 1) * 2 ^ (d + q) < 2 ^ 55 * 10 ^ (z + (E.length - 1)) := by rw [← hz]; exact h4
        rw [Nat.pow_add 10 z, ← Nat.mul_assoc, Nat.mul_comm (10 ^ (E.length - 1))] at h4'
        have h5 := Nat.lt_of_mul_lt_mul_right h4'
        rcases Nat.lt_or_ge 310 z with hz3 | hz3
        · omega
        · exfalso
          have h6 := pw5 z hz3
          have h7 : 2 ^ 55 * 10 ^ z ≤ 2 ^ (800 + z) := by
            rw [show (10 : Nat) = 2 * 5 by rfl, Nat.mul_pow, show 800 + z = 55 + z + 745 by omega, Nat.pow_add, Nat.pow_add 2 55 z, ← Nat.mul_assoc]
            exact Nat.mul_le_mul_left _ h6
          have h8 : 2 ^ (800 + z) ≤ 2 ^ (d + q) := two_pow_le (by omega)
          omega
    have he : 36 ≤ e := by omega
    rcases hbig with hb | hb
    · omega
    · have h5 : dn E * 2 ^ (d + q) ≤ dn E * (m * 2 ^ 100) := by
        rw [h3]
        calc m * 10 ^ q ≤ m * (dn E * 2 ^ 100) := Nat.mul_le_mul_left _ hb
          _ = dn E * (m * 2 ^ 100) := by ac_rfl
      have hE0 : 0 < dn E := Nat.lt_of_lt_of_le (Nat.pow_pos (by omega)) hlo
      have h6 := Nat.le_of_mul_le_mul_left h5 hE0
      have h7 : m * 2 ^ 100 < 2 ^ 55 * 2 ^ 100 := Nat.mul_lt_mul_of_pos_right hm (Nat.two_pow_pos _)
      rw [← Nat.pow_add] at h7
      have h8 : 2 ^ (55 + 100) ≤ 2 ^ (d + q) := two_pow_le (by omega)
      omega
end Go.Proofs.YtknjgopapbemcaaGreatDoor
/- The law of lost digits: one step, the end. Plain. -/
namespace Go.Proofs.YtknjgopapbemcaaGreatDoor
set_option linter.unusedVariables false
set_option linter.unusedSimpArgs false
set_option exponentiation.threshold 4000 in
theorem ap_next {K c N M L i j : Nat} {ds O : List Nat} {dp dp' e e' : Int} {tr : Bool} (h : Ap K c (vn ds dp) (vd ds dp) e N M tr) (hK : K = 10 ^ 799) (hM : 0 < M) (hO : Vd L O)
    (hs : vn (trimD O O.length) dp' * 2 ^ i * vd ds dp = vn ds dp * 2 ^ j * vd (trimD O O.length) dp') (he : e' = e + i - j) (hdp : dp' ≤ 400)
    (hbig : e' ≤ 35 ∨ vd (trimD O O.length) dp' ≤ vn (trimD O O.length) dp' * 2 ^ 100) :
    Ap K (c + 1) (vn (keep O) dp') (vd (keep O) dp') e' N M (tr || nz (O.drop 800)) ∧ vn (keep O) dp' * vd (trimD O O.length) dp' ≤ vn (trimD O O.length) dp' * vd (keep O) dp' := by
  obtain ⟨vE, hl, _⟩ := trimD_vd hO
  have h1 := h.step (vd_pos _ _) (vd_pos _ _) hs he
  cases hz : nz (O.drop 800) with
  | false =>
    rw [keep_all hO hz, Bool.or_false]
    exact ⟨h1.wide (by omega), Nat.le_refl _⟩
  | true =>
    obtain ⟨h8, hk⟩ := keep_cut hO hz
    rw [Bool.or_true, hk]
    generalize trimD O O.length = E at *
    obtain ⟨f1, f2⟩ := keep_frac vE hl h8 dp' hK
    refine ⟨h1.cut (by rw [hK]; exact Nat.pow_pos (by omega)) hM (vd_pos _ _) (vd_pos _ _) f1 f2 ?_, Nat.le_of_lt f1⟩
    cases htr : tr with
    | true => exact (h1.nt htr).1
    | false => exact notie vE hl h8 hdp hM (h1.ex htr) hbig
theorem rne_half {W Z q : Nat} (h1 : q * Z < 2 * W) (h2 : 2 * W < (q + 1) * Z) : rne W Z = (q + 1) / 2 := by
  have hZ : 0 < Z := by
    rcases Nat.eq_zero_or_pos Z with h | h
    · rw [h, Nat.mul_zero] at h2; omega
    · exact h
  rw [Nat.add_mul, Nat.one_mul] at h2
  obtain ⟨u, hu | hu⟩ : ∃ u, q = 2 * u ∨ q = 2 * u + 1 := ⟨q / 2, by omega⟩
  · subst hu
    have e0 : 2 * u * Z = 2 * (u * Z) := Nat.mul_assoc _ _ _
    obtain ⟨e1, e2⟩ := div_of (x := W) (q := u) (m := Z) (r := W - u * Z) (by omega) (by omega)
    unfold rne
    rw [e1, e2, if_neg (by omega)]; omega
  · subst hu
    have e0 : (2 * u + 1) * Z = 2 * (u * Z) + Z := by rw [Nat.add_mul, Nat.one_mul, Nat.mul_assoc]
    obtain ⟨e1, e2⟩ := div_of (x := W) (q := u) (m := Z) (r := W - u * Z) (by omega) (by omega)
    unfold rne
    rw [e1, e2, if_pos (.inl (by omega))]; omega
theorem mantT_false (ds : List Nat) (p : Int) : mantT ds false p = mantOf ds p := by
  unfold mantT mantOf
  split
  · rfl
  · unfold wholeN nearU nearT
    rw [Bool.false_or]
theorem mantT_half {L : Nat} {ds : List Nat} {dp : Int} (h : Vd L ds) : mantT ds true dp = (2 * vn ds dp / vd ds dp + 1) / 2 := by
  unfold mantT
  split
  · rename_i hn
    have h1 := lt_ten h 1 (dp := dp) (by omega)
    rw [Nat.pow_one] at h1
    have e0 : 2 * vn ds dp / vd ds dp = 0 := Nat.div_eq_of_lt (by omega)
    rw [e0]
  · rename_i hn
    obtain ⟨n, rfl⟩ := Int.eq_ofNat_of_zero_le (show 0 ≤ dp by omega)
    rw [Int.toNat_natCast]
    unfold nearT vn vd num den
    rcases Nat.lt_or_ge n ds.length with hl | hl
    · rw [if_neg (by omega), show ((n : Int) - ds.length).toNat = 0 by omega, Nat.pow_zero, Nat.mul_one]
      obtain ⟨r, hr⟩ : ∃ r, ds.length - n = r + 1 := ⟨ds.length - n - 1, by omega⟩
      rw [show (-((n : Int) - ds.length)).toNat = r + 1 by omega]
      have hs := dn_split (ds := ds) (n := n) (by omega)
      rw [hr] at hs
      have hd := drop_dg hl
      rw [show ds.length - (n + 1) = r by omega] at hd
      have hR := dn_drop_lt h.dig r (n + 1) (by omega)
      have h9 := h.dig n
      rw [tn_take ds n (by omega)]
      have hb : (if dg ds n = 5 ∧ n + 1 = ds.length then (true || (decide (0 < n) && decide (dg ds (n - 1) % 2 ≠ 0))) else decide (5 ≤ dg ds n)) = decide (5 ≤ dg ds n) := by
        split
        · rename_i h5; rw [h5.1]; rfl
        · rfl
      rw [hb, hs, hd, Nat.pow_succ]
      generalize dn (ds.take n) = A
      generalize dn (ds.drop (n + 1)) = R at *
      generalize dg ds n = d at *
      have hT : 0 < 10 ^ r := Nat.pow_pos (by omega)
      generalize 10 ^ r = T at *
      by_cases h5 : 5 ≤ d
      · have e1 : 2 * (A * (T * 10) + (d * T + R)) = (2 * A + 1) * (T * 10) + (2 * (d - 5) * T + 2 * R) := by
          obtain ⟨d', rfl⟩ : ∃ d', d = d' + 5 := ⟨d - 5, by omega⟩
          rw [Nat.add_sub_cancel, Nat.add_mul (2 * A), Nat.one_mul, Nat.add_mul d', Nat.mul_assoc 2 A, Nat.mul_assoc 2 d']
          omega
        have e2 : 2 * (d - 5) * T + 2 * R < T * 10 := by
          have : 2 * (d - 5) * T ≤ 8 * T := Nat.mul_le_mul_right _ (by omega)
          omega
        rw [decide_eq_true h5, (div_of e1 e2).1]
        simp; omega
      · have e1 : 2 * (A * (T * 10) + (d * T + R)) = (2 * A) * (T * 10) + (2 * d * T + 2 * R) := by
          rw [Nat.mul_assoc 2 A, Nat.mul_assoc 2 d]; omega
        have e2 : 2 * d * T + 2 * R < T * 10 := by
          have : 2 * d * T ≤ 8 * T := Nat.mul_le_mul_right _ (by omega)
          omega
        rw [decide_eq_false h5, (div_of e1 e2).1]
        simp; omega
    · rw [if_pos hl, show (-((n : Int) - ds.length)).toNat = 0 by omega, Nat.pow_zero, Nat.div_one]
      obtain ⟨k, rfl⟩ : ∃ k, n = ds.length + k := ⟨n - ds.length, by omega⟩
      rw [tn_over, show (((ds.length + k : Nat) : Int) - ds.length).toNat = k by omega]
      generalize dn ds * 10 ^ k = X
      simp; omega
/-- The end of the road: 53 bits. -/
theorem fin_T {K c0 c a0 b0 N M L : Nat} {e E : Int} {ds3 : List Nat} {dp3 : Int} {tr0 tr : Bool} (hK : K = 10 ^ 799) (hM : 0 < M) (hg : GapOk N M) (h0 : Ap K c0 a0 b0 e N M tr0) (hb0 : 0 < b0) (hc0 : c0 ≤ 5000) (hlt : a0 < b0) (hge : b0 ≤ a0 * 2)
    (heE : (E = e - 1 ∧ -1021 ≤ e) ∨ (E = -1022 ∧ e < -1021)) (h3 : Ap K c (vn ds3 dp3) (vd ds3 dp3) (E - 52) N M tr) (hc : c ≤ 5000) (hv : Vd L ds3) (hl3 : 0 < dg ds3 (ds3.length - 1)) :
    rung N M = min ((E + 1022).toNat * C + mantT ds3 tr dp3) infR ∧ mantT ds3 tr dp3 ≤ D ∧ (E = -1022 ∨ C ≤ mantT ds3 tr dp3) ∧ dp3 ≤ 16 := by
  obtain ⟨t, ht⟩ : ∃ t : Nat, (t : Int) = E + 1022 := ⟨(E + 1022).toNat, by omega⟩
  rw [show (E + 1022).toNat = t by omega]
  have hro := rung_of (N := N) (M := M) (t := t) hM
  obtain ⟨k, hk⟩ : ∃ k, k = kS := ⟨_, rfl⟩
  obtain ⟨W, hW⟩ : ∃ W, W = S := ⟨_, rfl⟩
  have hS : W = 2 ^ k := by rw [hW, hk]; rfl
  rw [← hW] at hro
  clear hW
  have k44 : k = 1074 := hk
  have hkT : k + 1 = kS + 1 := by rw [hk]
  clear hk
  have hS2 : 2 * W = 2 ^ (k + 1) := by rw [hS, Nat.pow_succ, Nat.mul_comm]
  have hD : D = 2 ^ 53 := rfl
  have hC : C = 2 ^ 52 := rfl
  -- below 2^53
  have hhi : N * W < D * (M * 2 ^ t) := by
    have h1 : N * 2 ^ (k + 1) < M * 1 * 2 ^ (t + 54) := by
      refine ap_lt h0 hg hc0 hK hb0 hM (Nat.one_lt_two_pow (by omega)) (x := e.toNat) (y := (-e).toNat) (by omega) hkT ?_
      have h2 : a0 * 2 ^ (e.toNat + (k + 1)) < b0 * 2 ^ (e.toNat + (k + 1)) := Nat.mul_lt_mul_of_pos_right hlt (Nat.two_pow_pos _)
      have h3 : b0 * 2 ^ (e.toNat + (k + 1)) ≤ b0 * 2 ^ (t + 54 + (-e).toNat) := Nat.mul_le_mul_left _ (two_pow_le (by omega))
      rw [Nat.one_mul]; omega
    rw [← hS2, Nat.mul_one, show t + 54 = 1 + 53 + t by omega, Nat.pow_add, Nat.pow_add 2 1 53, ← hD] at h1
    apply Nat.lt_of_mul_lt_mul_left (a := 2)
    calc 2 * (N * W) = N * (2 * W) := by ac_rfl
      _ < M * (2 ^ 1 * D * 2 ^ t) := h1
      _ = 2 * (D * (M * 2 ^ t)) := by rw [Nat.pow_one]; ac_rfl
  have hlo : t = 0 ∨ C * (M * 2 ^ t) ≤ N * W := by
    rcases heE with ⟨h1, h2⟩ | ⟨h1, h2⟩
    · right
      have h4 : b0 * M * 2 ^ e.toNat ≤ N * b0 * 2 ^ ((-e).toNat + 1) := by
        calc b0 * M * 2 ^ e.toNat ≤ a0 * 2 * M * 2 ^ e.toNat := Nat.mul_le_mul_right _ (Nat.mul_le_mul_right _ hge)
          _ = 2 * (a0 * M * 2 ^ e.toNat) := by ac_rfl
          _ ≤ 2 * (N * b0 * 2 ^ (-e).toNat) := Nat.mul_le_mul_left _ h0.lo
          _ = N * b0 * 2 ^ ((-e).toNat + 1) := by rw [Nat.pow_succ]; ac_rfl
      have h5 : M * 2 ^ e.toNat ≤ N * 2 ^ ((-e).toNat + 1) := by
        refine Nat.le_of_mul_le_mul_left (?_ : b0 * _ ≤ b0 * _) hb0
        calc b0 * (M * 2 ^ e.toNat) = b0 * M * 2 ^ e.toNat := by ac_rfl
          _ ≤ N * b0 * 2 ^ ((-e).toNat + 1) := h4
          _ = b0 * (N * 2 ^ ((-e).toNat + 1)) := by ac_rfl
      have h6 := le_shift (x' := 52 + t) (y' := k) h5 (by omega)
      rw [Nat.pow_add, ← hC, ← hS] at h6
      calc C * (M * 2 ^ t) = M * (C * 2 ^ t) := by ac_rfl
        _ ≤ N * W := h6
    · left; omega
  have hr := hro hhi hlo
  obtain ⟨a, ha⟩ : ∃ a, a = vn ds3 dp3 := ⟨_, rfl⟩
  obtain ⟨b, hb⟩ : ∃ b, b = vd ds3 dp3 := ⟨_, rfl⟩
  have hbp : 0 < b := by rw [hb]; exact vd_pos _ _
  rw [← ha, ← hb] at h3
  have hZ : 0 < M * 2 ^ t := Nat.mul_pos hM (Nat.two_pow_pos _)
  have hle : a * M * 2 ^ t ≤ N * b * 2 ^ k := le_shift h3.lo (by omega)
  have haD : a < D * b := by
    apply Nat.lt_of_mul_lt_mul_right (a := M * 2 ^ t)
    calc a * (M * 2 ^ t) = a * M * 2 ^ t := by ac_rfl
      _ ≤ N * b * 2 ^ k := hle
      _ = N * W * b := by rw [← hS]; ac_rfl
      _ < D * (M * 2 ^ t) * b := Nat.mul_lt_mul_of_pos_right hhi hbp
      _ = D * b * (M * 2 ^ t) := by ac_rfl
  have hmant : mantT ds3 tr dp3 = rne (N * W) (M * 2 ^ t) := by
    cases tr with
    | false =>
      rw [mantT_false, mantOf_rne hv hl3, ← ha, ← hb]
      refine rne_same hbp hZ ?_
      have e1 := le_shift (x' := t) (y' := k) (Nat.le_of_eq (h3.ex rfl)) (by omega)
      have e2 := le_shift (x' := k) (y' := t) (Nat.le_of_eq (h3.ex rfl).symm) (by omega)
      have e3 : a * M * 2 ^ t = N * b * 2 ^ k := by omega
      rw [← Nat.mul_assoc, e3, ← hS]; ac_rfl
    | true =>
      rw [mantT_half hv, ← ha, ← hb]
      obtain ⟨q, hq⟩ : ∃ q, q = 2 * a / b := ⟨_, rfl⟩
      rw [← hq]
      have q1 : q * b ≤ 2 * a := by rw [hq]; exact Nat.div_mul_le_self _ _
      have q2 : 2 * a < (q + 1) * b := by
        have := Nat.lt_div_mul_add (a := 2 * a) hbp
        rw [← hq] at this
        rw [Nat.add_mul, Nat.one_mul]; exact this
      have q3 : q + 1 < 2 ^ 55 := by
        have : q < 2 ^ 54 := by
          rw [hq]
          refine (Nat.div_lt_iff_lt_mul hbp).2 ?_
          rw [show (2 : Nat) ^ 54 = 2 * D by rw [hD], Nat.mul_assoc]
          exact Nat.mul_lt_mul_of_pos_left haD (by omega)
        have : (2 : Nat) ^ 54 < 2 ^ 55 := by decide
        omega
      have hstrict := lt_shift (x' := t) (y' := k) (h3.nt rfl).2 (by omega)
      refine (rne_half ?_ ?_).symm
      · apply Nat.lt_of_mul_lt_mul_right (a := b)
        calc q * (M * 2 ^ t) * b = q * b * (M * 2 ^ t) := by ac_rfl
          _ ≤ 2 * a * (M * 2 ^ t) := Nat.mul_le_mul_right _ q1
          _ = 2 * (a * M * 2 ^ t) := by ac_rfl
          _ < 2 * (N * b * 2 ^ k) := Nat.mul_lt_mul_of_pos_left hstrict (by omega)
          _ = 2 * (N * W) * b := by rw [← hS]; ac_rfl
      · have h1 : N * 2 ^ (k + 1) < M * (q + 1) * 2 ^ t := by
          refine ap_lt h3 hg hc hK hbp hM q3 (x := t) (y := k) (by omega) hkT ?_
          rw [show t + (k + 1) = (t + k) + 1 by omega, Nat.pow_succ, ← Nat.mul_assoc]
          calc a * 2 ^ (t + k) * 2 = 2 * a * 2 ^ (t + k) := by ac_rfl
            _ < (q + 1) * b * 2 ^ (t + k) := Nat.mul_lt_mul_of_pos_right q2 (Nat.two_pow_pos _)
        rw [← hS2] at h1
        calc 2 * (N * W) = N * (2 * W) := by ac_rfl
          _ < M * (q + 1) * 2 ^ t := h1
          _ = (q + 1) * (M * 2 ^ t) := by ac_rfl
  rw [hmant]
  refine ⟨hr, ?_, ?_, ?_⟩
  · have h1 := rne_hi (N * W) (M * 2 ^ t)
    have h2 : N * W / (M * 2 ^ t) < D := (Nat.div_lt_iff_lt_mul hZ).2 hhi
    omega
  · rcases hlo with h | h
    · left; omega
    · right
      have h1 := rne_lo (N * W) (M * 2 ^ t)
      have h2 : C ≤ N * W / (M * 2 ^ t) := (Nat.le_div_iff_mul_le hZ).2 h
      omega
  · rcases Int.lt_or_le 16 dp3 with h | h
    · exfalso
      have h1 := ge_pow hv 16 (dp := dp3) (by omega)
      rw [← ha, ← hb] at h1
      have h2 : D * b ≤ 10 ^ 16 * b := Nat.mul_le_mul_right _ (by rw [hD]; decide)
      omega
    · exact h
/-- Too great for a float. -/
theorem over_T {K c0 a0 b0 N M : Nat} {e E : Int} {tr0 : Bool} (hM : 0 < M) (h0 : Ap K c0 a0 b0 e N M tr0) (hb0 : 0 < b0) (hge : b0 ≤ a0 * 2) (he : 1025 ≤ e) : rung N M = infR := by
  refine rung_inf (j := 1024) hM rfl ?_
  generalize hj : (1024 : Nat) = j
  have h4 : b0 * M * 2 ^ e.toNat ≤ N * b0 * 2 ^ ((-e).toNat + 1) := by
    calc b0 * M * 2 ^ e.toNat ≤ a0 * 2 * M * 2 ^ e.toNat := Nat.mul_le_mul_right _ (Nat.mul_le_mul_right _ hge)
      _ = 2 * (a0 * M * 2 ^ e.toNat) := by ac_rfl
      _ ≤ 2 * (N * b0 * 2 ^ (-e).toNat) := Nat.mul_le_mul_left _ h0.lo
      _ = N * b0 * 2 ^ ((-e).toNat + 1) := by rw [Nat.pow_succ]; ac_rfl
  have h6 := le_shift (x' := (e - 1).toNat) (y' := 0) h4 (by omega)
  rw [Nat.pow_zero, Nat.mul_one] at h6
  have h7 : b0 * M * 2 ^ j ≤ N * b0 := Nat.le_trans (Nat.mul_le_mul_left _ (two_pow_le (by omega))) h6
  refine Nat.le_of_mul_le_mul_left (?_ : b0 * _ ≤ b0 * _) hb0
  calc b0 * (2 ^ j * M) = b0 * M * 2 ^ j := by ac_rfl
    _ ≤ N * b0 := h7
    _ = b0 * N := Nat.mul_comm _ _
end Go.Proofs.YtknjgopapbemcaaGreatDoor
