/- Mg Mh: joined by merge.py for the claim. -/
import Derived.Test.YtknjgopapbemcaaGreatDoorXLcLe
import Derived.Test.YtknjgopapbemcaaGreatDoorXMaMf
/- The ends of bits: too small, too great. -/
namespace Go.Proofs.YtknjgopapbemcaaGreatDoor
open Go.RowKit
set_option linter.unusedVariables false
theorem val0 {ds : List Nat} {dp : Int} {N M : Nat} (hv : Val ds dp 0 N M) : vn ds dp * M = N * vd ds dp := by
  unfold Val at hv
  simpa using hv
theorem rung_tiny {a b : Nat} (hb : 0 < b) (h : 2 * (a * S) < b) : rung a b = 0 := by
  have e : a * S / b = 0 := Nat.div_eq_of_lt (by omega)
  have hp : plc a b = 0 := by unfold plc; rw [e]; rfl
  unfold rung
  rw [hp, Nat.pow_zero, Nat.mul_one]
  unfold rne
  rw [e, Nat.mod_eq_of_lt (by omega), if_neg (by omega)]
  simp
set_option exponentiation.threshold 4000 in
theorem pw1 (a b : Nat) (ha : a = 1075) (hb : b = 330) : 2 ^ a ≤ 10 ^ b := by
  have h1 : (2 ^ 33) ^ 33 ≤ (10 ^ 10) ^ 33 := Nat.pow_le_pow_left (by decide) 33
  rw [← Nat.pow_mul, ← Nat.pow_mul, show 10 * 33 = b by omega] at h1
  exact Nat.le_trans (two_pow_le (by omega)) h1
set_option exponentiation.threshold 4000 in
theorem pw2 (a b : Nat) (ha : a = 310) (hb : b = 1030) : 10 ^ a ≤ 2 ^ b := by
  have h1 : (10 ^ 31) ^ 10 ≤ (2 ^ 103) ^ 10 := Nat.pow_le_pow_left (by decide) 10
  rw [← Nat.pow_mul, ← Nat.pow_mul, show 103 * 10 = b by omega, show 31 * 10 = a by omega] at h1
  exact h1
set_option exponentiation.threshold 4000 in
theorem pw3 (a b : Nat) (ha : a = 331) (hb : b = 1100) : 10 ^ a ≤ 2 ^ b := by
  have h1 : (10 ^ 59) ^ 5 ≤ (2 ^ 196) ^ 5 := Nat.pow_le_pow_left (by decide) 5
  have h2 : 10 ^ 36 ≤ 2 ^ 120 := by decide
  rw [← Nat.pow_mul, ← Nat.pow_mul] at h1
  have h3 := Nat.mul_le_mul h1 h2
  rw [← Nat.pow_add, ← Nat.pow_add, show 59 * 5 + 36 = a by omega, show 196 * 5 + 120 = b by omega] at h3
  exact h3
set_option exponentiation.threshold 4000 in
theorem pw4 (a b : Nat) (ha : a = 1024) (hb : b = 310) : 2 ^ a ≤ 10 ^ b := by
  have h1 : (2 ^ 93) ^ 11 ≤ (10 ^ 28) ^ 11 := Nat.pow_le_pow_left (by decide) 11
  rw [← Nat.pow_mul, ← Nat.pow_mul] at h1
  have h3 := Nat.mul_le_mul h1 (show 2 ^ 1 ≤ 10 ^ 2 by decide)
  rw [← Nat.pow_add, ← Nat.pow_add, show 93 * 11 + 1 = a by omega, show 28 * 11 + 2 = b by omega] at h3
  exact h3
theorem bits_small {L : Nat} {ds : List Nat} {dp D : Int} {N M : Nat} (hM : 0 < M) (h : Gd L D ds dp) (hv : Val ds dp 0 N M) (hs : dp < -330) : rung N M = 0 := by
  obtain ⟨m, hm⟩ : ∃ m : Nat, m = 330 := ⟨_, rfl⟩
  obtain ⟨k, hk⟩ : ∃ k : Nat, k = kS + 1 := ⟨_, rfl⟩
  have h1 := lt_ten h.vd m (dp := dp) (by omega)
  have h2 := pw1 k m (by have := kS_eq; omega) hm
  have e : S * 2 = 2 ^ k := by rw [S_eq, hk, Nat.pow_add, Nat.pow_one]
  rw [rung_same hM (vd_pos ds dp) (val0 hv).symm]
  refine rung_tiny (vd_pos _ _) (Nat.lt_of_le_of_lt ?_ h1)
  rw [Nat.mul_comm 2, Nat.mul_assoc, e]
  exact Nat.mul_le_mul_left _ h2
theorem bits_great {L : Nat} {ds : List Nat} {dp D : Int} {N M : Nat} (hM : 0 < M) (h : Gd L D ds dp) (hv : Val ds dp 0 N M) (hs : 310 < dp) : rung N M = infR := by
  obtain ⟨m, hm⟩ : ∃ m : Nat, m = 310 := ⟨_, rfl⟩
  obtain ⟨k, hk⟩ : ∃ k : Nat, k = 1024 := ⟨_, rfl⟩
  have h1 := ge_pow h.vd m (dp := dp) (by omega)
  have h2 := pw4 k m hk hm
  rw [rung_same hM (vd_pos ds dp) (val0 hv).symm]
  exact rung_inf (vd_pos _ _) hk (Nat.le_trans (Nat.mul_le_mul_right _ h2) h1)
theorem start_lt {L : Nat} {ds : List Nat} {dp D : Int} (h : Gd L D ds dp) (h2 : dp ≤ 310) {m : Nat} (hm : m = 1030) : vn ds dp < 2 ^ m * vd ds dp := by
  obtain ⟨k, hk⟩ : ∃ k : Nat, k = 310 := ⟨_, rfl⟩
  exact Nat.lt_of_lt_of_le (lt_pow h.vd k (dp := dp) (by omega)) (Nat.mul_le_mul_right _ (pw2 k m hk hm))
theorem start_ge {L : Nat} {ds : List Nat} {dp D : Int} (h : Gd L D ds dp) (h1 : -330 ≤ dp) {m : Nat} (hm : m = 1100) : vd ds dp ≤ vn ds dp * 2 ^ m := by
  obtain ⟨k, hk⟩ : ∃ k : Nat, k = 331 := ⟨_, rfl⟩
  exact Nat.le_trans (ge_neg h.vd k (dp := dp) (by omega)) (Nat.mul_le_mul_left _ (pw3 k m hk hm))
theorem mid_over {ds : List Nat} {N M : Nat} {e : Int} (hv : Val ds 0 e N M) (hge : vd ds 0 ≤ vn ds 0 * 2) (hM : 0 < M) (he : 1025 ≤ e) : rung N M = infR := by
  obtain ⟨k, hk⟩ : ∃ k : Nat, k = 1024 := ⟨_, rfl⟩
  have h1 := val_open hv (x := e.toNat) (y := 0) (by omega)
  refine rung_inf hM hk ?_
  rw [Nat.pow_zero, Nat.mul_one] at h1
  have hb := vd_pos ds 0
  obtain ⟨j, hj⟩ : ∃ j, e.toNat = 1 + k + j := ⟨e.toNat - 1 - k, by omega⟩
  rw [hj, Nat.pow_add, Nat.pow_add] at h1
  have h2 : 1 ≤ 2 ^ j := Nat.two_pow_pos j
  refine Nat.le_of_mul_le_mul_right (c := vd ds 0) ?_ hb
  rw [← h1]
  calc 2 ^ k * M * vd ds 0 ≤ 2 ^ k * M * (vn ds 0 * 2) := Nat.mul_le_mul_left _ hge
    _ = vn ds 0 * M * (2 ^ 1 * 2 ^ k) := by rw [Nat.pow_one, Nat.mul_comm (2 ^ k) M, Nat.mul_comm 2 (2 ^ k), ← Nat.mul_assoc, Nat.mul_right_comm M, Nat.mul_comm M, ← Nat.mul_assoc]
    _ ≤ vn ds 0 * M * (2 ^ 1 * 2 ^ k * 2 ^ j) := Nat.mul_le_mul_left _ (Nat.le_mul_of_pos_right _ h2)
end Go.Proofs.YtknjgopapbemcaaGreatDoor
/- The laws of halving and doubling up to 2^60 (those of Mb, Mc, Me, a step further). -/
namespace Go.Proofs.YtknjgopapbemcaaGreatDoor
set_option linter.unusedVariables false
set_option linter.unusedSimpArgs false
theorem half_specX {L k : Nat} {ds : List Nat} (h : Vd L ds) (hL : L ≤ 40000) (hk1 : 1 ≤ k) (hk2 : k ≤ 60) :
    hf1 (2 ^ k) ds 60000 0 0 = some (halfI k ds) ∧ hf2 (2 ^ k) ds 60000 (halfI k ds).1 (halfI k ds).2 [] = some (halfO k ds) ∧ 0 < (halfO k ds).length ∧
    Vd (L + k + 1) (halfO k ds) ∧ Vd (L + k + 1) (halfD k ds) ∧ 0 < dg (halfD k ds) ((halfD k ds).length - 1) ∧ 1 ≤ (halfI k ds).2 ∧ (halfI k ds).2 ≤ 21 ∧
    ∀ dp : Int, num (dn (halfD k ds) * 2 ^ k) (halfP k ds dp - (halfD k ds).length) * den (dp - ds.length) = num (dn ds) (dp - ds.length) * den (halfP k ds dp - (halfD k ds).length) := by
  have hP : 0 < 2 ^ k := Nat.two_pow_pos k
  have hPb : 2 ^ k ≤ 1152921504606846976 := two_pow_le (m := 60) hk2
  -- twenty rounds are enough
  have key := hf1_spec (2 ^ k) ds h.dig h.first hP 21 0 0 rfl (.inl rfl) (by simp; omega) (by omega) (by omega) (by omega)
  obtain ⟨N, I, h1, h3, h4, h5, h6, h7⟩ := key
  have mono : ∀ (f n i : Nat) (r : Nat × Nat), hf1 (2 ^ k) ds f n i = some r → ∀ f', f ≤ f' → hf1 (2 ^ k) ds f' n i = some r := by
    intro f
    induction f with
    | zero => intro n i r e; simp [hf1] at e
    | succ f ih =>
      intro n i r e f' hf
      obtain ⟨f'', rfl⟩ : ∃ m, f' = m + 1 := ⟨f' - 1, by omega⟩
      rw [hf1] at e ⊢
      split
      · rename_i hq; rw [if_pos hq] at e; exact ih _ _ _ e _ (by omega)
      · rename_i hq; rw [if_neg hq] at e; exact e
  have h1' := mono _ _ _ _ h1 60000 (by omega)
  have eI : halfI k ds = (N, I) := by unfold halfI; rw [h1']; rfl
  obtain ⟨out, g1, g2, g3, g4, g5, J, g6, g7, g8⟩ := hf2_spec k ds h.dig I 60000 N I [] 0 (by rw [← h3, dn_nil]; omega) (by simp) (by intro j; simp [dg]) h5 (by omega) (.inl rfl) (fun _ => h4) (fun e => absurd rfl e) (by have := h.le; omega)
  have eO : halfO k ds = out := by unfold halfO; rw [eI]; show (hf2 (2 ^ k) ds 60000 N I []).getD [] = out; rw [g1]; rfl
  have ho : 0 < out.length := List.length_pos_iff.2 g2
  have vo : Vd (L + k + 1) out := ⟨ho, by have := h.le; simp at g5; omega, g3, g4⟩
  obtain ⟨v1, v2, j, v3, v4⟩ := trimD_vd vo
  refine ⟨by rw [eI]; exact h1', by rw [eO, eI]; exact g1, by rw [eO]; exact ho, by rw [eO]; exact vo, by unfold halfD; rw [eO]; exact v1, by unfold halfD; rw [eO]; exact v2, by rw [eI]; exact h6, by rw [eI]; show I ≤ 21; omega, fun dp => ?_⟩
  unfold halfD halfP
  rw [eO, eI]
  obtain ⟨m, hm⟩ : ∃ m, J = ds.length + m := ⟨J - ds.length, by omega⟩
  rw [hm, tn_over] at g8
  refine num_eq (a := 1 + j) (b := m) ?_ (by show dp - ((I : Int) - 1) - _ - _ = _; omega)
  rw [g8, v4, Nat.pow_add]
  generalize dn (trimD out out.length) = D
  generalize 10 ^ j = T
  generalize 2 ^ k = P
  rw [Nat.pow_one, Nat.mul_comm D P, Nat.mul_assoc, Nat.mul_assoc, Nat.mul_left_comm D 10 T, Nat.mul_left_comm P 10]
theorem db1_specX (k : Nat) (hk : k ≤ 60) (ds : List Nat) (hdig : ∀ i, dg ds i < 10) (h00 : 0 < dg ds 0) : ∀ (j f n : Nat) (l : List Nat), j ≤ ds.length → (j = 0 → 0 < l.length ∧ (n = 0 → 0 < dg l (l.length - 1))) → (∀ i, dg l i < 10) → l.length + j = ds.length → n < 2 ^ k →
    n * 10 ^ l.length + rn l = dn (ds.drop j) * 2 ^ k → j + 20 ≤ f →
    ∃ out, db1 (2 ^ k) ds f n ((j : Int) - 1) l = some out ∧ rn out = dn ds * 2 ^ k ∧ 0 < dg out (out.length - 1) ∧ (∀ i, dg out i < 10) ∧ 0 < out.length ∧ out.length ≤ ds.length + f - j := by
  intro j
  have hP : 0 < 2 ^ k := Nat.two_pow_pos k
  have hPb : 2 ^ k ≤ 1152921504606846976 := two_pow_le (m := 60) hk
  induction j with
  | zero =>
    intro f n l _ h0 hd hl hn he hf
    obtain ⟨f', rfl⟩ : ∃ m, f = m + 1 := ⟨f - 1, by omega⟩
    have hpow : 10 ^ 19 ≤ 10 ^ f' := Nat.pow_le_pow_right (by omega) (by omega)
    obtain ⟨out, h1, h2, h3, h4, h5, h6⟩ := db1_after (2 ^ k) ds f' n (((0 : Nat) : Int) - 1) l (by omega) (h0 rfl).1 (h0 rfl).2 hd (by omega)
    exact ⟨out, h1, by rw [h2, Nat.add_comm, he, List.drop_zero], h3, h4, h5, by omega⟩
  | succ j ih =>
    intro f n l hj h0 hd hl hn he hf
    obtain ⟨f', rfl⟩ : ∃ m, f = m + 1 := ⟨f - 1, by omega⟩
    rw [db1, if_pos (by omega)]
    have ei : (((j + 1 : Nat) : Int) - 1).toNat = j := by omega
    have ei2 : ((j + 1 : Nat) : Int) - 1 - 1 = (j : Int) - 1 := by omega
    rw [ei, ei2]
    have hdj := hdig j
    have h9 : dg ds j * 2 ^ k ≤ 9 * 2 ^ k := Nat.mul_le_mul_right _ (by omega)
    obtain ⟨X, hX⟩ : ∃ X, X = n + dg ds j * 2 ^ k := ⟨_, rfl⟩
    rw [← hX]
    have e1 : (l ++ [X % 10]).length = l.length + 1 := by simp
    obtain ⟨out, h1, h2, h3, h4, h5, h6⟩ := ih f' (X / 10) (l ++ [X % 10]) (by omega) (by
      intro hj0
      refine ⟨by omega, fun hz => ?_⟩
      rw [e1, Nat.add_sub_cancel, dg_append, if_neg (by omega), Nat.sub_self]
      show 0 < X % 10
      subst hj0
      have : 1 * 2 ^ k ≤ dg ds 0 * 2 ^ k := Nat.mul_le_mul_right _ h00
      omega) (by
      intro i; rw [dg_append]; split
      · exact hd i
      · unfold dg
        cases i - l.length with
        | zero => show X % 10 < 10; omega
        | succ m => simp) (by omega) (by omega) (by
      rw [rn_snoc, e1, Nat.pow_succ, drop_dg (by omega), Nat.add_mul, ← he]
      have e2 : ds.length - (j + 1) = l.length := by omega
      rw [e2]
      have hdm := Nat.div_add_mod X 10
      generalize 10 ^ l.length = T at *
      have e3 : X / 10 * (T * 10) + X % 10 * T = X * T := by
        rw [show X / 10 * (T * 10) = (10 * (X / 10)) * T by rw [Nat.mul_comm T, ← Nat.mul_assoc, Nat.mul_comm (X / 10) 10], ← Nat.add_mul, hdm]
      have e4 : X * T = n * T + dg ds j * T * 2 ^ k := by rw [hX, Nat.add_mul, Nat.mul_assoc, Nat.mul_comm (2 ^ k) T, ← Nat.mul_assoc]
      omega) (by omega)
    exact ⟨out, h1, h2, h3, h4, h5, by omega⟩
theorem dbl_specX {L k : Nat} {ds : List Nat} (h : Vd L ds) (hL : L ≤ 40000) (hk : k ≤ 60) :
    db1 (2 ^ k) ds 60000 0 ((ds.length : Int) - 1) [] = some (dblO k ds) ∧ 0 < (dblO k ds).length ∧ Vd (L + 20) (dblO k ds).reverse ∧ Vd (L + 20) (dblD k ds) ∧
    0 < dg (dblD k ds) ((dblD k ds).length - 1) ∧ (dblO k ds).length ≤ ds.length + 20 ∧ ds.length ≤ (dblO k ds).length ∧
    ∀ dp : Int, num (dn (dblD k ds)) (dblP k ds dp - (dblD k ds).length) * den (dp - ds.length) = num (dn ds * 2 ^ k) (dp - ds.length) * den (dblP k ds dp - (dblD k ds).length) := by
  obtain ⟨out, h1, h2, h3, h4, h5, h6⟩ := db1_specX k hk ds h.dig h.first ds.length (ds.length + 20) 0 [] (Nat.le_refl _) (fun e => absurd e (by have := h.pos; omega)) (by intro i; simp [dg]) (by simp) (Nat.two_pow_pos k) (by simp [rn, dn]) (by omega)
  have h1' := db1_mono _ _ _ _ _ _ _ h1 60000 (by have := h.le; omega)
  have eO : dblO k ds = out := by unfold dblO; rw [h1']; rfl
  have hlow : ds.length ≤ out.length := by
    -- rn out = dn ds * 2^k is at least 10^(length - 1)
    have hb : ∀ l : List Nat, (∀ i, dg l i < 10) → rn l < 10 ^ l.length := by
      intro l
      induction l with
      | nil => intro _; simp [rn]
      | cons d l ih =>
        intro hl
        have e0 := hl 0
        have ih' := ih (fun i => by have := hl (i + 1); simpa [dg] using this)
        rw [rn, List.length_cons, Nat.pow_succ]
        have : d < 10 := by simpa [dg] using e0
        omega
    have h7 := hb out h4
    have h8 : 10 ^ (ds.length - 1) ≤ dn ds := by
      have e := drop_dg (ds := ds) (j := 0) h.pos
      rw [List.drop_zero] at e
      rw [e]
      have : 1 * 10 ^ (ds.length - (0 + 1)) ≤ dg ds 0 * 10 ^ (ds.length - (0 + 1)) := Nat.mul_le_mul_right _ h.first
      rw [Nat.one_mul] at this
      exact Nat.le_trans this (Nat.le_add_right _ _)
    rw [h2] at h7
    have h9 : dn ds * 1 ≤ dn ds * 2 ^ k := Nat.mul_le_mul_left _ (Nat.two_pow_pos k)
    have h10 : 10 ^ (ds.length - 1) < 10 ^ out.length := by omega
    have := (Nat.pow_lt_pow_iff_right (by omega : 1 < 10)).1 h10
    have := h.pos
    omega
  have vo : Vd (L + 20) out.reverse := by
    refine ⟨by simp; omega, by simp; have := h.le; omega, fun i => ?_, ?_⟩
    · rcases Nat.lt_or_ge i out.length with hi | hi
      · rw [dg_reverse hi]; exact h4 _
      · rw [dg_end (by simp; omega)]; omega
    · rw [dg_reverse h5]; simpa using h3
  obtain ⟨v1, v2, j, v3, v4⟩ := trimD_vd vo
  rw [List.length_reverse] at v1 v2 v3 v4
  refine ⟨by rw [eO]; exact h1', by rw [eO]; exact h5, by rw [eO]; exact vo, by unfold dblD; rw [eO]; exact v1, by unfold dblD; rw [eO]; exact v2, by rw [eO]; omega, by rw [eO]; exact hlow, fun dp => ?_⟩
  unfold dblD dblP
  rw [eO]
  refine num_eq (a := j) (b := 0) ?_ (by omega)
  rw [← v4, dn_reverse, h2]
  simp
theorem half_fracX {L k : Nat} {ds : List Nat} (h : Vd L ds) (hL : L ≤ 40000) (hk1 : 1 ≤ k) (hk2 : k ≤ 60) (dp : Int) : vn (halfD k ds) (halfP k ds dp) * 2 ^ k * vd ds dp = vn ds dp * 2 ^ 0 * vd (halfD k ds) (halfP k ds dp) := by
  have e := (half_specX h hL hk1 hk2).2.2.2.2.2.2.2.2 dp
  unfold vn vd
  rw [Nat.pow_zero, Nat.mul_one, ← e]
  unfold num
  ac_rfl
theorem dbl_fracX {L k : Nat} {ds : List Nat} (h : Vd L ds) (hL : L ≤ 40000) (hk2 : k ≤ 60) (dp : Int) : vn (dblD k ds) (dblP k ds dp) * 2 ^ 0 * vd ds dp = vn ds dp * 2 ^ k * vd (dblD k ds) (dblP k ds dp) := by
  have e := (dbl_specX h hL hk2).2.2.2.2.2.2.2 dp
  unfold vn vd
  rw [Nat.pow_zero, Nat.mul_one, e]
  unfold num
  ac_rfl
theorem val_halfX {L k : Nat} {ds : List Nat} {dp e : Int} {N M : Nat} (h : Vd L ds) (hL : L ≤ 40000) (hk1 : 1 ≤ k) (hk2 : k ≤ 60) (hv : Val ds dp e N M) : Val (halfD k ds) (halfP k ds dp) (e + k) N M := by
  have := val_step (vd_pos _ _) hv (half_fracX h hL hk1 hk2 dp)
  rw [show e + (k : Int) - ((0 : Nat) : Int) = e + k by omega] at this
  exact this
theorem val_dblX {L k : Nat} {ds : List Nat} {dp e : Int} {N M : Nat} (h : Vd L ds) (hL : L ≤ 40000) (hk2 : k ≤ 60) (hv : Val ds dp e N M) : Val (dblD k ds) (dblP k ds dp) (e - k) N M := by
  have := val_step (vd_pos _ _) hv (dbl_fracX h hL hk2 dp)
  rw [show e + ((0 : Nat) : Int) - (k : Int) = e - k by omega] at this
  exact this
end Go.Proofs.YtknjgopapbemcaaGreatDoor
