/- Pg: joined by merge.py for the claim. -/
import Derived.Test.YtknjgopapbemcaaGreatDoorXDo
import Derived.Test.YtknjgopapbemcaaGreatDoorXGj
/- Plain: what the first 19 digits of a decimal tell of its rung. -/
namespace Go.Proofs.YtknjgopapbemcaaGreatDoor
open Go.RowKit
set_option linter.unusedVariables false
set_option linter.unusedSimpArgs false
theorem nN_shift (a k : Nat) (p : Int) : nN (a * 10 ^ k) p * nD (p + k) = nN a (p + k) * nD p := by
  unfold nN nD
  have e : k + p.toNat + (-(p + k)).toNat = (p + k).toNat + (-p).toNat := by omega
  calc a * 10 ^ k * 10 ^ p.toNat * 10 ^ (-(p + k)).toNat = a * 10 ^ (k + p.toNat + (-(p + k)).toNat) := by rw [Nat.pow_add, Nat.pow_add]; ac_rfl
    _ = a * 10 ^ ((p + k).toNat + (-p).toNat) := by rw [e]
    _ = a * 10 ^ (p + k).toNat * 10 ^ (-p).toNat := by rw [Nat.pow_add]; ac_rfl
theorem nN_le {a b : Nat} (h : a ≤ b) (p : Int) : nN a p ≤ nN b p := Nat.mul_le_mul_right _ h
theorem nN_lt {a b : Nat} (h : a < b) (p : Int) : nN a p < nN b p := Nat.mul_lt_mul_of_pos_right h (Nat.pow_pos (by omega))
/-- N / M lies between m and m + 1, times 10^x. -/
structure DecV (m : Nat) (x : Int) (N M : Nat) (tr : Bool) : Prop where
  M0 : 0 < M
  lo : nN m x * M ≤ N * nD x
  hi : N * nD x < nN (m + 1) x * M
  eq : tr = false → N * nD x = nN m x * M
theorem nz_foldl : ∀ (l : List Nat) (a : Nat), nz l = false → l.foldl (fun a d => 10 * a + d) a = a * 10 ^ l.length := by
  intro l
  induction l with
  | nil => intro a _; simp
  | cons d l ih =>
    intro a h
    have h1 : d = 0 ∧ nz l = false := by
      unfold nz at h ⊢
      simpa using h
    rw [List.foldl_cons, ih _ h1.2, h1.1, List.length_cons, Nat.pow_succ, Nat.add_zero]
    ac_rfl
theorem nz_dn {l : List Nat} (h : nz l = false) : dn l = 0 := by
  have := nz_foldl l 0 h
  rw [Nat.zero_mul] at this
  exact this
theorem decv {ds : List Nat} (h10 : Dg 10 ds) (q x : Int) (hx : x = q + ((ds.length : Int) - (min 19 ds.length : Nat))) : DecV (dn (ds.take 19)) x (nN (dn ds) q) (nD q) (nz (ds.drop 19)) := by
  obtain ⟨j, hj⟩ : ∃ j, j = (ds.drop 19).length := ⟨_, rfl⟩
  have hj2 : x = q + (j : Int) := by rw [hx, hj, List.length_drop]; omega
  subst hj2
  have e : dn ds = dn (ds.take 19) * 10 ^ j + dn (ds.drop 19) := by
    have := dn_append (ds.take 19) (ds.drop 19)
    rw [List.take_append_drop, ← hj] at this
    exact this
  have hlt : dn (ds.drop 19) < 10 ^ j := by
    rw [hj]
    exact dn_hi10 (fun d hd => h10.lt d (List.mem_of_mem_drop hd))
  refine ⟨nD_pos _, ?_, ?_, fun htr => ?_⟩
  · rw [← nN_shift]
    exact Nat.mul_le_mul_right _ (nN_le (by rw [e]; omega) _)
  · rw [← nN_shift]
    exact Nat.mul_lt_mul_of_pos_right (nN_lt (by rw [e, Nat.add_mul]; omega) _) (nD_pos _)
  · rw [← nN_shift, e, nz_dn htr, Nat.add_zero]
theorem DecV.exact {m : Nat} {x : Int} {N M : Nat} (h : DecV m x N M false) : rung N M = rung (nN m x) (nD x) := rung_same h.M0 (nD_pos x) (h.eq rfl)
theorem DecV.ge {m : Nat} {x : Int} {N M : Nat} {tr : Bool} (h : DecV m x N M tr) : rung (nN m x) (nD x) ≤ rung N M := rung_mono (nD_pos x) h.M0 h.lo
theorem DecV.le {m : Nat} {x : Int} {N M : Nat} {tr : Bool} (h : DecV m x N M tr) : rung N M ≤ rung (nN (m + 1) x) (nD x) := rung_mono h.M0 (nD_pos x) (Nat.le_of_lt h.hi)
theorem DecV.squeeze {m : Nat} {x : Int} {N M : Nat} {tr : Bool} (h : DecV m x N M tr) (he : rung (nN m x) (nD x) = rung (nN (m + 1) x) (nD x)) : rung N M = rung (nN m x) (nD x) :=
  Nat.le_antisymm (by rw [he]; exact h.le) h.ge
theorem DecV.over {m : Nat} {x : Int} {N M : Nat} {tr : Bool} (h : DecV m x N M tr) (hm : 0 < m) (hx : 310 < x) : rung N M = infR := by
  obtain ⟨a, ha⟩ : ∃ a : Nat, a = 310 := ⟨_, rfl⟩
  obtain ⟨k, hk⟩ : ∃ k : Nat, k = 1024 := ⟨_, rfl⟩
  have h2 := pw4 k a hk ha
  have h3 : 10 ^ a ≤ nN m x := by
    unfold nN
    calc 10 ^ a ≤ 10 ^ x.toNat := Nat.pow_le_pow_right (by omega) (by omega)
      _ ≤ m * 10 ^ x.toNat := Nat.le_mul_of_pos_left _ hm
  have h4 : nD x = 1 := by unfold nD; rw [show (-x).toNat = 0 by omega, Nat.pow_zero]
  have h5 := h.lo
  rw [h4, Nat.mul_one] at h5
  exact rung_inf h.M0 hk (Nat.le_trans (Nat.mul_le_mul_right _ (Nat.le_trans h2 h3)) h5)
set_option exponentiation.threshold 4000 in
theorem pw6 (a b : Nat) (ha : a = 1075) (hb : b = 326) : 2 ^ a ≤ 10 ^ b := by
  have h1 : (2 ^ 93) ^ 11 ≤ (10 ^ 28) ^ 11 := Nat.pow_le_pow_left (by decide) 11
  rw [← Nat.pow_mul, ← Nat.pow_mul] at h1
  have h3 := Nat.mul_le_mul h1 (show 2 ^ 52 ≤ 10 ^ 18 by decide)
  rw [← Nat.pow_add, ← Nat.pow_add, show 93 * 11 + 52 = a by omega, show 28 * 11 + 18 = b by omega] at h3
  exact h3
set_option exponentiation.threshold 4000 in
theorem pw7 (a b : Nat) (ha : a = 1025) (hb : b = 310) : 2 ^ a ≤ 10 ^ b := by
  have h1 : (2 ^ 93) ^ 11 ≤ (10 ^ 28) ^ 11 := Nat.pow_le_pow_left (by decide) 11
  rw [← Nat.pow_mul, ← Nat.pow_mul] at h1
  have h3 := Nat.mul_le_mul h1 (show 2 ^ 2 ≤ 10 ^ 2 by decide)
  rw [← Nat.pow_add, ← Nat.pow_add, show 93 * 11 + 2 = a by omega, show 28 * 11 + 2 = b by omega] at h3
  exact h3
theorem DecV.under {m : Nat} {x : Int} {N M : Nat} {tr : Bool} (h : DecV m x N M tr) (hm : m < 10 ^ 19) (hx : x < -345) : rung N M = 0 := by
  obtain ⟨a, ha⟩ : ∃ a : Nat, a = 326 := ⟨_, rfl⟩
  obtain ⟨k, hk⟩ : ∃ k : Nat, k = kS + 1 := ⟨_, rfl⟩
  have h2 := pw6 k a (by have := kS_eq; omega) ha
  have e : S * 2 = 2 ^ k := by rw [S_eq, hk, Nat.pow_add, Nat.pow_one]
  have h5 := h.hi
  have h4 : nN (m + 1) x = m + 1 := by unfold nN; rw [show x.toNat = 0 by omega, Nat.pow_zero, Nat.mul_one]
  rw [h4] at h5
  have h6 : 10 ^ 19 * 10 ^ a ≤ nD x := by
    unfold nD; rw [← Nat.pow_add]
    exact Nat.pow_le_pow_right (by omega) (by omega)
  refine rung_tiny h.M0 ?_
  obtain ⟨T, hT⟩ : ∃ T : Nat, T = 10 ^ 19 := ⟨_, rfl⟩
  rw [← hT] at hm h6
  have hT0 : 0 < T := by rw [hT]; exact Nat.pow_pos (by omega)
  refine Nat.lt_of_mul_lt_mul_left (a := T) ?_
  calc T * (2 * (N * S)) = N * (T * (S * 2)) := by clear h2 e h6 hT hk ha; generalize S = W; ac_rfl
    _ ≤ N * (T * 10 ^ a) := by rw [e]; exact Nat.mul_le_mul_left _ (Nat.mul_le_mul_left _ h2)
    _ ≤ N * nD x := Nat.mul_le_mul_left _ h6
    _ < (m + 1) * M := h5
    _ ≤ T * M := Nat.mul_le_mul_right _ (by omega)
/-- What the slow road wants. -/
structure SlowOk (N M : Nat) : Prop where
  gap : GapOk N M
  n : N < 2 ^ 1030 * M
  xl : XL N M (-1100)
theorem DecV.slow {m : Nat} {x : Int} {N M : Nat} {tr : Bool} (h : DecV m x N M tr) (hm : 10 ^ 18 ≤ m) (hx : -345 ≤ x) (hfin : rung (nN m x) (nD x) ≠ infR) (hM : M ≤ 10 ^ 740) (hMN : M ≤ N → M ≤ 10 ^ 400) : SlowOk N M := by
  have hn : N < 10 ^ 310 * M := by
    apply Nat.lt_of_not_le
    intro hge
    apply hfin
    obtain ⟨a, ha⟩ : ∃ a : Nat, a = 310 := ⟨_, rfl⟩
    obtain ⟨k, hk⟩ : ∃ k : Nat, k = 1024 := ⟨_, rfl⟩
    have h2 := pw4 k a hk ha
    have h2' : 2 * 2 ^ k ≤ 10 ^ a := by
      have := pw7 (k + 1) a (by omega) ha
      rw [Nat.pow_succ] at this
      omega
    rw [← ha] at hge
    refine rung_inf (nD_pos x) hk ?_
    have h9 : 10 ^ a * M * nD x < nN (m + 1) x * M := Nat.lt_of_le_of_lt (Nat.mul_le_mul_right _ hge) h.hi
    have h10 : 10 ^ a * nD x < nN (m + 1) x := by
      apply Nat.lt_of_mul_lt_mul_right (a := M)
      calc 10 ^ a * nD x * M = 10 ^ a * M * nD x := by ac_rfl
        _ < _ := h9
    have h11 : nN (m + 1) x ≤ 2 * nN m x := by
      unfold nN
      rw [← Nat.mul_assoc]
      have : 0 < 10 ^ 18 := Nat.pow_pos (by omega)
      exact Nat.mul_le_mul_right _ (by omega)
    have h12 : 2 * (2 ^ k * nD x) ≤ 10 ^ a * nD x := by rw [← Nat.mul_assoc]; exact Nat.mul_le_mul_right _ h2'
    omega
  refine ⟨⟨hn, hM, hMN⟩, ?_, ?_⟩
  · obtain ⟨a, ha⟩ : ∃ a : Nat, a = 310 := ⟨_, rfl⟩
    obtain ⟨k, hk⟩ : ∃ k : Nat, k = 1030 := ⟨_, rfl⟩
    have h2 := pw2 a k ha hk
    rw [← ha] at hn
    rw [← hk]
    exact Nat.lt_of_lt_of_le hn (Nat.mul_le_mul_right _ h2)
  · unfold XL
    rw [show (-1100 : Int).toNat = 0 by rfl, Nat.pow_zero, Nat.mul_one]
    obtain ⟨k, hk⟩ : ∃ k : Nat, k = (-(-1100 : Int)).toNat := ⟨_, rfl⟩
    have hk' : k = 1100 := by rw [hk]; rfl
    rw [← hk]
    clear hk
    obtain ⟨a, ha⟩ : ∃ a : Nat, a = 331 := ⟨_, rfl⟩
    have h2 := pw3 a k ha hk'
    have h5 := h.lo
    rcases Int.lt_or_le x 0 with hneg | hpos
    · have h4 : nN m x = m := by unfold nN; rw [show x.toNat = 0 by omega, Nat.pow_zero, Nat.mul_one]
      rw [h4] at h5
      have h6 : nD x ≤ 10 ^ 18 * 10 ^ a := by
        unfold nD; rw [← Nat.pow_add]
        exact Nat.pow_le_pow_right (by omega) (by omega)
      obtain ⟨T, hT⟩ : ∃ T : Nat, T = 10 ^ 18 := ⟨_, rfl⟩
      rw [← hT] at hm h6
      have hT0 : 0 < T := by rw [hT]; exact Nat.pow_pos (by omega)
      refine Nat.le_of_mul_le_mul_left (c := T) ?_ hT0
      calc T * M ≤ m * M := Nat.mul_le_mul_right _ hm
        _ ≤ N * nD x := h5
        _ ≤ N * (T * 10 ^ a) := Nat.mul_le_mul_left _ h6
        _ ≤ N * (T * 2 ^ k) := Nat.mul_le_mul_left _ (Nat.mul_le_mul_left _ h2)
        _ = T * (N * 2 ^ k) := by ac_rfl
    · have h4 : nD x = 1 := by unfold nD; rw [show (-x).toNat = 0 by omega, Nat.pow_zero]
      rw [h4, Nat.mul_one] at h5
      have h6 : 1 ≤ nN m x := by
        unfold nN
        have : 0 < 10 ^ 18 := Nat.pow_pos (by omega)
        exact Nat.mul_pos (by omega) (Nat.pow_pos (by omega))
      calc M ≤ nN m x * M := Nat.le_mul_of_pos_left _ h6
        _ ≤ N := h5
        _ ≤ N * 2 ^ k := Nat.le_mul_of_pos_right _ (Nat.two_pow_pos k)
/-- The value of a decimal's digits. -/
theorem vn_nN (ds : List Nat) (dp q : Int) (h : dp = q + ds.length) : vn ds dp = nN (dn ds) q ∧ vd ds dp = nD q := by
  unfold vn vd num den nN nD
  rw [show dp - (ds.length : Int) = q by omega]
  exact ⟨rfl, rfl⟩
theorem ap_start (K N M : Nat) : Ap K 0 N M 0 N M false :=
  ⟨by simp, by rw [Nat.sub_zero]; simp, fun _ => by simp, fun h => by cases h⟩
set_option exponentiation.threshold 4000 in
/-- The point's bounds. -/
theorem dp_le {ds : List Nat} {q dp : Int} (h : Vd 800 ds) (hdp : dp = q + ds.length) (hn : nN (dn ds) q < 10 ^ 310 * nD q) : dp ≤ 310 := by
  apply Int.le_of_not_gt
  intro hgt
  obtain ⟨a, ha⟩ : ∃ a : Nat, a = 310 := ⟨_, rfl⟩
  have h1 := ge_pow h a (dp := dp) (by omega)
  obtain ⟨e1, e2⟩ := vn_nN ds dp q hdp
  rw [e1, e2, ha] at h1
  omega
set_option exponentiation.threshold 4000 in
theorem M_le_N {ds : List Nat} {q : Int} (h : Dg 10 ds) (hl : ds.length ≤ 400) (hMN : nD q ≤ nN (dn ds) q) : nD q ≤ 10 ^ 400 := by
  rcases Int.lt_or_le q 0 with hneg | hpos
  · have h4 : nN (dn ds) q = dn ds := by unfold nN; rw [show q.toNat = 0 by omega, Nat.pow_zero, Nat.mul_one]
    rw [h4] at hMN
    have h1 := dn_hi10 h.lt
    exact Nat.le_trans hMN (Nat.le_trans (Nat.le_of_lt h1) (Nat.pow_le_pow_right (by omega) hl))
  · have h4 : nD q = 1 := by unfold nD; rw [show (-q).toNat = 0 by omega, Nat.pow_zero]
    rw [h4]; exact Nat.pow_pos (by omega)
end Go.Proofs.YtknjgopapbemcaaGreatDoor
