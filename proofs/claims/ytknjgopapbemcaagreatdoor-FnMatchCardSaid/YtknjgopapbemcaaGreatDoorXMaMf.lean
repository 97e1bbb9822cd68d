/- Ma Mb Mc Mr Md Me Mf: joined by merge.py for the claim. -/
/- Plain lists of digits: what the decimals of the two packages compute. No program in sight. -/
namespace Go.Proofs.YtknjgopapbemcaaGreatDoor

/-- Digit i; 0 behind the end. (A plain name: the walk does not open it.) -/
def dg (ds : List Nat) (i : Nat) : Nat := ds.getD i 0
theorem dg_end {ds : List Nat} {i : Nat} (h : ds.length ≤ i) : dg ds i = 0 := by
  unfold dg; rw [List.getD_eq_getElem?_getD, List.getElem?_eq_none h]; rfl
theorem dg_take {ds : List Nat} {i m : Nat} (h : i < m) : dg (ds.take m) i = dg ds i := by
  unfold dg
  simp only [List.getD_eq_getElem?_getD, List.getElem?_take]
  rw [if_pos h]

/-- The digits without zeros at their end. -/
def trimD (ds : List Nat) : Nat → List Nat
  | 0 => []
  | m + 1 => if dg ds m = 0 then trimD ds m else ds.take (m + 1)

/-- How trim leaves the point. -/
def trimP (l : List Nat) (dp : Int) : Int := if l = [] then 0 else dp

/-- The first loop of half: the digits that make the first one. -/
def hf1 (P : Nat) (ds : List Nat) : Nat → Nat → Nat → Option (Nat × Nat)
  | 0, _, _ => none
  | f + 1, n, i => if n / P = 0 then hf1 P ds f (n * 10 + dg ds i) (i + 1) else some (n, i)
/-- The second loop: the digits of what comes out. -/
def hf2 (P : Nat) (ds : List Nat) : Nat → Nat → Nat → List Nat → Option (List Nat)
  | 0, _, _, _ => none
  | f + 1, n, i, out => if i < ds.length ∨ 0 < n then hf2 P ds f (n % P * 10 + dg ds i) (i + 1) (out ++ [n / P]) else some out

/-- The loop of double: the digits from behind, the last one first. -/
def db1 (P : Nat) (ds : List Nat) : Nat → Nat → Int → List Nat → Option (List Nat)
  | 0, _, _, _ => none
  | f + 1, n, i, l =>
    if 0 ≤ i then db1 P ds f ((n + dg ds i.toNat * P) / 10) (i - 1) (l ++ [(n + dg ds i.toNat * P) % 10])
    else if 0 < n then db1 P ds f (n / 10) (i - 1) (l ++ [n % 10])
    else some l

theorem ext_dg {l l' : List Nat} (hl : l.length = l'.length) (h : ∀ k, k < l.length → dg l k = dg l' k) : l = l' := by
  apply List.ext_getElem hl
  intro k h1 h2
  have e := h k h1
  unfold dg at e
  rw [List.getD_eq_getElem?_getD, List.getD_eq_getElem?_getD, List.getElem?_eq_getElem h1, List.getElem?_eq_getElem h2] at e
  exact e
theorem dg_reverse {l : List Nat} {k : Nat} (h : k < l.length) : dg l.reverse k = dg l (l.length - 1 - k) := by
  unfold dg
  rw [List.getD_eq_getElem?_getD, List.getD_eq_getElem?_getD, List.getElem?_reverse h]
end Go.Proofs.YtknjgopapbemcaaGreatDoor
/- Plain arithmetic of decimals: half and double are exact. No program in sight. -/
namespace Go.Proofs.YtknjgopapbemcaaGreatDoor

/-- The number of a list of digits. -/
def dn (l : List Nat) : Nat := l.foldl (fun a d => 10 * a + d) 0

theorem dn_nil : dn [] = 0 := rfl
theorem dn_snoc (l : List Nat) (d : Nat) : dn (l ++ [d]) = 10 * dn l + d := by simp [dn]

theorem dg_lt {l : List Nat} {i : Nat} (h : i < l.length) : dg l i = l[i] := by
  unfold dg; rw [List.getD_eq_getElem?_getD, List.getElem?_eq_getElem h]; rfl
theorem take_snoc_dg {l : List Nat} {i : Nat} (h : i < l.length) : l.take (i + 1) = l.take i ++ [dg l i] := by
  rw [List.take_succ_eq_append_getElem h, dg_lt h]
theorem dg_append {l l' : List Nat} {i : Nat} : dg (l ++ l') i = if i < l.length then dg l i else dg l' (i - l.length) := by
  unfold dg
  simp only [List.getD_eq_getElem?_getD]
  split
  · rw [List.getElem?_append_left (by assumption)]
  · rw [List.getElem?_append_right (by omega)]

/-- The number of the first i digits, zeros behind the end. -/
def tn (ds : List Nat) : Nat → Nat
  | 0 => 0
  | i + 1 => 10 * tn ds i + dg ds i
theorem tn_take (ds : List Nat) : ∀ i, i ≤ ds.length → tn ds i = dn (ds.take i)
  | 0, _ => by simp [tn, dn]
  | i + 1, h => by rw [tn, tn_take ds i (by omega), take_snoc_dg (by omega), dn_snoc]
theorem tn_over (ds : List Nat) (k : Nat) : tn ds (ds.length + k) = dn ds * 10 ^ k := by
  induction k with
  | zero => rw [Nat.add_zero, tn_take ds _ (Nat.le_refl _), List.take_length]; simp
  | succ k ih => rw [← Nat.add_assoc, tn, ih, dg_end (by omega), Nat.pow_succ, Nat.add_zero, Nat.mul_left_comm, Nat.mul_comm 10]

theorem hf1_spec (P : Nat) (ds : List Nat) (hd : ∀ i, dg ds i < 10) (h0 : 0 < dg ds 0) (hP : 0 < P) :
    ∀ (f n i : Nat), n = tn ds i → (i = 0 ∨ (10 ^ (i - 1) ≤ n)) → P ≤ 10 ^ (i + f - 2) → 2 ≤ i + f → 1 ≤ f → n < 10 * P →
    ∃ N I, hf1 P ds f n i = some (N, I) ∧ N = tn ds I ∧ P ≤ N ∧ N < 10 * P ∧ 1 ≤ I ∧ I < i + f := by
  intro f
  induction f with
  | zero => intro n i _ _ _ _ h; omega
  | succ f ih =>
    intro n i hn hi hp h2 _ hlt
    rw [hf1]
    by_cases hq : n / P = 0
    · rw [if_pos hq]
      have hnP : n < P := by
        rcases Nat.div_eq_zero_iff.1 hq with h | h
        · omega
        · exact h
      have hn' : n * 10 + dg ds i = tn ds (i + 1) := by rw [tn, ← hn]; omega
      have hpow : 10 ^ ((i + 1) - 1) ≤ n * 10 + dg ds i := by
        rcases hi with rfl | hi
        · simp; omega
        · rw [Nat.add_sub_cancel]
          rcases Nat.eq_zero_or_pos i with rfl | hip
          · simp at hi ⊢; omega
          · have : 10 ^ i = 10 ^ (i - 1) * 10 := by rw [← Nat.pow_succ]; congr 1; omega
            omega
      have hf : 1 ≤ f := by
        rcases Nat.eq_zero_or_pos f with rfl | h
        · -- then P ≤ 10 ^ (i - 1) ≤ n
          exfalso
          rcases hi with rfl | hi
          · simp at hp; omega
          · have e : i + (0 + 1) - 2 = i - 1 := by omega
            rw [e] at hp
            omega
        · exact h
      have hd' := hd i
      obtain ⟨N, I, h1, h3, h4, h5, h6, h7⟩ := ih (n * 10 + dg ds i) (i + 1) hn' (.inr hpow) (by rw [show i + 1 + f - 2 = i + (f + 1) - 2 by omega]; exact hp) (by omega) hf (by omega)
      exact ⟨N, I, h1, h3, h4, h5, h6, by omega⟩
    · rw [if_neg hq]
      have hPn : P ≤ n := by
        rcases Nat.lt_or_ge n P with h | h
        · exact absurd (Nat.div_eq_of_lt h) hq
        · exact h
      refine ⟨n, i, rfl, hn, hPn, hlt, ?_, by omega⟩
      rcases hi with rfl | hi
      · rw [hn, tn] at hPn; omega
      · rcases Nat.eq_zero_or_pos i with rfl | h
        · rw [hn, tn] at hPn; omega
        · exact h

/-- What is known while the second loop runs; v: how many halvings are sure to be paid by n, once the digits are at their end. -/
theorem hf2_spec (k : Nat) (ds : List Nat) (hd : ∀ i, dg ds i < 10) (I : Nat) :
    ∀ (f n i : Nat) (l : List Nat) (v : Nat), tn ds i = n + 10 * 2 ^ k * dn l → l.length + I = i → (∀ j, dg l j < 10) → n < 10 * 2 ^ k → v ≤ k → (v = 0 ∨ (ds.length ≤ i ∧ 2 ^ v ∣ n)) →
      (l = [] → 2 ^ k ≤ n) → (l ≠ [] → 0 < dg l 0) → (ds.length - i) + (k - v) + 2 ≤ f →
    ∃ out, hf2 (2 ^ k) ds f n i l = some out ∧ out ≠ [] ∧ (∀ j, dg out j < 10) ∧ 0 < dg out 0 ∧ out.length ≤ l.length + (ds.length - i) + (k - v) + 1 ∧
      ∃ J, J = out.length + I ∧ ds.length ≤ J ∧ tn ds J = 10 * 2 ^ k * dn out := by
  have hP : 0 < 2 ^ k := Nat.two_pow_pos k
  intro f
  induction f with
  | zero => intro n i l v _ _ _ _ _ _ _ _ h; omega
  | succ f ih =>
    intro n i l v ht hli hlt hn hv hdiv hl0 hl1 hf
    rw [hf2]
    by_cases hc : i < ds.length ∨ 0 < n
    · rw [if_pos hc]
      have hq9 : n / 2 ^ k < 10 := (Nat.div_lt_iff_lt_mul hP).2 hn
      have hmod := Nat.mod_lt n hP
      have hdm := Nat.div_add_mod n (2 ^ k)
      have hdi := hd i
      have e1 : tn ds (i + 1) = (n % 2 ^ k * 10 + dg ds i) + 10 * 2 ^ k * dn (l ++ [n / 2 ^ k]) := by
        rw [tn, ht, dn_snoc, Nat.mul_add (10 * 2 ^ k)]
        generalize dn l = D at *
        have x1 : 10 * (10 * 2 ^ k * D) = 10 * 2 ^ k * (10 * D) := by rw [Nat.mul_left_comm]
        have x2 : 10 * 2 ^ k * (n / 2 ^ k) = 10 * (2 ^ k * (n / 2 ^ k)) := Nat.mul_assoc _ _ _
        rw [x2]
        generalize 2 ^ k * (n / 2 ^ k) = A at *
        generalize n % 2 ^ k = B at *
        rw [← x1]
        generalize 10 * 2 ^ k * D = E at *
        omega
      have e2 : (l ++ [n / 2 ^ k]).length + I = i + 1 := by simp; omega
      have e3 : ∀ j, dg (l ++ [n / 2 ^ k]) j < 10 := by
        intro j; rw [dg_append]; split
        · exact hlt j
        · unfold dg
          cases j - l.length with
          | zero => exact hq9
          | succ m => simp
      have e5 : l ++ [n / 2 ^ k] = [] → 2 ^ k ≤ n % 2 ^ k * 10 + dg ds i := by intro h; simp at h
      have e6 : l ++ [n / 2 ^ k] ≠ [] → 0 < dg (l ++ [n / 2 ^ k]) 0 := by
        intro _
        rcases Nat.eq_zero_or_pos l.length with h | h
        · have hl : l = [] := List.length_eq_zero_iff.1 h
          rw [hl]
          have := hl0 hl
          exact Nat.div_pos this hP
        · rw [dg_append, if_pos h]
          exact hl1 (by intro e; rw [e] at h; simp at h)
      have e4 : n % 2 ^ k * 10 + dg ds i < 10 * 2 ^ k := by omega
      by_cases hi : i < ds.length
      · -- digits are still to come; v is 0 or the digits end here
        obtain ⟨out, h1, h2, h3, h4, h5, h6⟩ := ih (n % 2 ^ k * 10 + dg ds i) (i + 1) (l ++ [n / 2 ^ k]) 0 e1 e2 e3 e4 (by omega) (.inl rfl) e5 e6 (by
          rcases hdiv with h | h <;> omega)
        refine ⟨out, h1, h2, h3, h4, ?_, h6⟩
        simp at h5
        rcases hdiv with h | h <;> omega
      · have hz : dg ds i = 0 := dg_end (by omega)
        have hnp : 0 < n := by omega
        have hdv : 2 ^ v ∣ n := by
          rcases hdiv with h | h
          · rw [h]; simp
          · exact h.2
        rw [hz, Nat.add_zero] at e1 e4 e5 ⊢
        rcases Nat.lt_or_ge v k with hvk | hvk
        · have hdv' : 2 ^ (v + 1) ∣ n % 2 ^ k * 10 := by
            have h1 : 2 ^ v ∣ n % 2 ^ k := (Nat.dvd_mod_iff (Nat.pow_dvd_pow 2 hv)).2 hdv
            rw [Nat.pow_succ]
            exact Nat.mul_dvd_mul h1 ⟨5, rfl⟩
          obtain ⟨out, h1, h2, h3, h4, h5, h6⟩ := ih (n % 2 ^ k * 10) (i + 1) (l ++ [n / 2 ^ k]) (v + 1) e1 e2 e3 e4 (by omega) (.inr ⟨by omega, hdv'⟩) e5 e6 (by omega)
          exact ⟨out, h1, h2, h3, h4, by simp at h5; omega, h6⟩
        · have hvk' : v = k := by omega
          have h0 : n % 2 ^ k = 0 := Nat.mod_eq_zero_of_dvd (by rw [hvk'] at hdv; exact hdv)
          rw [h0, Nat.zero_mul] at e1 ⊢
          obtain ⟨f', rfl⟩ : ∃ m, f = m + 1 := ⟨f - 1, by omega⟩
          rw [hf2, if_neg (by omega)]
          exact ⟨_, rfl, by simp, e3, e6 (by simp), by simp; omega, i + 1, by omega, by omega, by rw [e1, Nat.zero_add]⟩
    · rw [if_neg hc]
      have hn0 : n = 0 := by omega
      refine ⟨l, rfl, ?_, hlt, ?_, by omega, i, by omega, by omega, by rw [ht, hn0]; omega⟩
      · intro e; have := hl0 e; omega
      · exact hl1 (by intro e; have := hl0 e; omega)
/-- D * 10^e as a fraction. -/
def num (D : Nat) (e : Int) : Nat := D * 10 ^ e.toNat
def den (e : Int) : Nat := 10 ^ (-e).toNat
theorem den_pos (e : Int) : 0 < den e := Nat.pow_pos (by omega)
theorem ten_shift {A B a b x y : Nat} (h : A * 10 ^ a = B * 10 ^ b) (hxy : x + b = a + y) : A * 10 ^ x = B * 10 ^ y := by
  have hp : 0 < 10 ^ b := Nat.pow_pos (by omega)
  apply Nat.eq_of_mul_eq_mul_right hp
  calc A * 10 ^ x * 10 ^ b = A * 10 ^ (x + b) := by rw [Nat.pow_add, Nat.mul_assoc]
    _ = A * 10 ^ a * 10 ^ y := by rw [hxy, Nat.pow_add, Nat.mul_assoc]
    _ = B * 10 ^ b * 10 ^ y := by rw [h]
    _ = B * 10 ^ y * 10 ^ b := by rw [Nat.mul_assoc, Nat.mul_comm (10 ^ b), ← Nat.mul_assoc]
theorem num_eq {A B a b : Nat} {eA eB : Int} (h : A * 10 ^ a = B * 10 ^ b) (he : eA - a = eB - b) : num A eA * den eB = num B eB * den eA := by
  unfold num den
  rw [Nat.mul_assoc, Nat.mul_assoc, ← Nat.pow_add, ← Nat.pow_add]
  exact ten_shift h (by omega)

/-- A decimal that is worth something: digits, the first one not 0, at most L of them. -/
structure Vd (L : Nat) (ds : List Nat) : Prop where
  pos : 0 < ds.length
  le : ds.length ≤ L
  dig : ∀ i, dg ds i < 10
  first : 0 < dg ds 0

theorem trimD_spec (ds : List Nat) (h0 : 0 < dg ds 0) : ∀ m, 0 < m → m ≤ ds.length →
    ∃ j, j + (trimD ds m).length = m ∧ 0 < (trimD ds m).length ∧ trimD ds m = ds.take (m - j) ∧ dn (ds.take m) = dn (trimD ds m) * 10 ^ j ∧ 0 < dg (trimD ds m) ((trimD ds m).length - 1) := by
  intro m
  induction m with
  | zero => intro h; omega
  | succ m ih =>
    intro _ hm
    rw [trimD]
    split
    · rename_i hz
      have hmp : 0 < m := by
        rcases Nat.eq_zero_or_pos m with rfl | h
        · omega
        · exact h
      obtain ⟨j, h1, h2, h3, h4, h5⟩ := ih hmp (by omega)
      refine ⟨j + 1, by omega, h2, by rw [h3]; congr 1; omega, ?_, h5⟩
      rw [take_snoc_dg (by omega), dn_snoc, h4, hz, Nat.pow_succ, Nat.add_zero, Nat.mul_left_comm, Nat.mul_comm 10]
    · rename_i hz
      have hl : (ds.take (m + 1)).length = m + 1 := by rw [List.length_take]; omega
      refine ⟨0, by omega, by omega, by simp, by simp, ?_⟩
      rw [hl, Nat.add_sub_cancel, dg_take (by omega)]
      omega

theorem trimD_vd {L : Nat} {ds : List Nat} (h : Vd L ds) : Vd L (trimD ds ds.length) ∧ 0 < dg (trimD ds ds.length) ((trimD ds ds.length).length - 1) ∧
    ∃ j, j + (trimD ds ds.length).length = ds.length ∧ dn ds = dn (trimD ds ds.length) * 10 ^ j := by
  obtain ⟨j, h1, h2, h3, h4, h5⟩ := trimD_spec ds h.first ds.length h.pos (Nat.le_refl _)
  rw [List.take_length] at h4
  refine ⟨⟨h2, by have := h.le; omega, fun i => ?_, ?_⟩, h5, j, h1, h4⟩
  · rw [h3]
    rcases Nat.lt_or_ge i (ds.length - j) with hi | hi
    · rw [dg_take hi]; exact h.dig i
    · rw [dg_end (by rw [List.length_take]; omega)]; omega
  · rw [h3, dg_take (by omega)]; exact h.first

theorem trimP_vd {L : Nat} {ds : List Nat} (h : Vd L ds) (dp : Int) : trimP ds dp = dp := by
  unfold trimP
  rw [if_neg]
  intro e
  have := h.pos
  rw [e] at this
  simp at this

/-- The digits that half leaves, and how far the point goes. -/
def halfI (k : Nat) (ds : List Nat) : Nat × Nat := (hf1 (2 ^ k) ds 60000 0 0).getD (0, 0)
def halfO (k : Nat) (ds : List Nat) : List Nat := (hf2 (2 ^ k) ds 60000 (halfI k ds).1 (halfI k ds).2 []).getD []
def halfD (k : Nat) (ds : List Nat) : List Nat := trimD (halfO k ds) (halfO k ds).length
def halfP (k : Nat) (ds : List Nat) (dp : Int) : Int := dp - (((halfI k ds).2 : Int) - 1)

theorem two_pow_le {k m : Nat} (h : k ≤ m) : 2 ^ k ≤ 2 ^ m := Nat.pow_le_pow_right (by omega) h

theorem half_spec {L k : Nat} {ds : List Nat} (h : Vd L ds) (hL : L ≤ 40000) (hk1 : 1 ≤ k) (hk2 : k ≤ 59) :
    hf1 (2 ^ k) ds 60000 0 0 = some (halfI k ds) ∧ hf2 (2 ^ k) ds 60000 (halfI k ds).1 (halfI k ds).2 [] = some (halfO k ds) ∧ 0 < (halfO k ds).length ∧
    Vd (L + k + 1) (halfO k ds) ∧ Vd (L + k + 1) (halfD k ds) ∧ 0 < dg (halfD k ds) ((halfD k ds).length - 1) ∧ 1 ≤ (halfI k ds).2 ∧ (halfI k ds).2 ≤ 20 ∧
    ∀ dp : Int, num (dn (halfD k ds) * 2 ^ k) (halfP k ds dp - (halfD k ds).length) * den (dp - ds.length) = num (dn ds) (dp - ds.length) * den (halfP k ds dp - (halfD k ds).length) := by
  have hP : 0 < 2 ^ k := Nat.two_pow_pos k
  have hPb : 2 ^ k ≤ 576460752303423488 := two_pow_le (m := 59) hk2
  -- twenty rounds are enough
  have key := hf1_spec (2 ^ k) ds h.dig h.first hP 20 0 0 rfl (.inl rfl) (by simp; omega) (by omega) (by omega) (by omega)
  obtain ⟨N, I, h1, h3, h4, h5, h6, h7⟩ := key
  have mono : ∀ (f n i : Nat) (r : Nat × Nat), hf1 (2 ^ k) ds f n i = some r → ∀ f', f ≤ f' → hf1 (2 ^ k) ds f' n i = some r := by
    intro f
    induction f with
    | zero => intro n i r e; simp [hf1] at e
    | succ f ih =>
      intro n i r e f' hf
      obtain ⟨f'', rfl⟩ : ∃ m, f' = m + 1 := ⟨f' - 1, by omega⟩
      rw [hf1] at e ⊢
      split
      · rename_i hq; rw [if_pos hq] at e; exact ih _ _ _ e _ (by omega)
      · rename_i hq; rw [if_neg hq] at e; exact e
  have h1' := mono _ _ _ _ h1 60000 (by omega)
  have eI : halfI k ds = (N, I) := by unfold halfI; rw [h1']; rfl
  obtain ⟨out, g1, g2, g3, g4, g5, J, g6, g7, g8⟩ := hf2_spec k ds h.dig I 60000 N I [] 0 (by rw [← h3, dn_nil]; omega) (by simp) (by intro j; simp [dg]) h5 (by omega) (.inl rfl) (fun _ => h4) (fun e => absurd rfl e) (by have := h.le; omega)
  have eO : halfO k ds = out := by unfold halfO; rw [eI]; show (hf2 (2 ^ k) ds 60000 N I []).getD [] = out; rw [g1]; rfl
  have ho : 0 < out.length := List.length_pos_iff.2 g2
  have vo : Vd (L + k + 1) out := ⟨ho, by have := h.le; simp at g5; omega, g3, g4⟩
  obtain ⟨v1, v2, j, v3, v4⟩ := trimD_vd vo
  refine ⟨by rw [eI]; exact h1', by rw [eO, eI]; exact g1, by rw [eO]; exact ho, by rw [eO]; exact vo, by unfold halfD; rw [eO]; exact v1, by unfold halfD; rw [eO]; exact v2, by rw [eI]; exact h6, by rw [eI]; show I ≤ 20; omega, fun dp => ?_⟩
  unfold halfD halfP
  rw [eO, eI]
  obtain ⟨m, hm⟩ : ∃ m, J = ds.length + m := ⟨J - ds.length, by omega⟩
  rw [hm, tn_over] at g8
  refine num_eq (a := 1 + j) (b := m) ?_ (by show dp - ((I : Int) - 1) - _ - _ = _; omega)
  rw [g8, v4, Nat.pow_add]
  generalize dn (trimD out out.length) = D
  generalize 10 ^ j = T
  generalize 2 ^ k = P
  rw [Nat.pow_one, Nat.mul_comm D P, Nat.mul_assoc, Nat.mul_assoc, Nat.mul_left_comm D 10 T, Nat.mul_left_comm P 10]

end Go.Proofs.YtknjgopapbemcaaGreatDoor
/- Plain arithmetic of decimals: double is exact. No program in sight. -/
namespace Go.Proofs.YtknjgopapbemcaaGreatDoor

/-- The number of a list of digits, the last one first. -/
def rn : List Nat → Nat
  | [] => 0
  | d :: l => d + 10 * rn l
theorem rn_snoc (l : List Nat) (r : Nat) : rn (l ++ [r]) = rn l + r * 10 ^ l.length := by
  induction l with
  | nil => simp [rn]
  | cons d l ih =>
    rw [List.cons_append, rn, ih, rn, List.length_cons, Nat.pow_succ, Nat.mul_add]
    rw [show r * (10 ^ l.length * 10) = 10 * (r * 10 ^ l.length) by rw [Nat.mul_comm (10 ^ l.length), Nat.mul_left_comm]]
    omega
theorem dn_reverse (l : List Nat) : dn l.reverse = rn l := by
  induction l with
  | nil => rfl
  | cons d l ih => rw [List.reverse_cons, dn_snoc, ih, rn]; omega
theorem dn_append (l l' : List Nat) : dn (l ++ l') = dn l * 10 ^ l'.length + dn l' := by
  induction l' generalizing l with
  | nil => simp [dn]
  | cons d l' ih =>
    have e : l ++ d :: l' = (l ++ [d]) ++ l' := by simp
    have e2 : d :: l' = [d] ++ l' := rfl
    rw [e, ih, dn_snoc, e2, ih [d]]
    have e3 : dn [d] = d := by simp [dn]
    rw [e3, List.length_append, List.length_singleton, Nat.add_comm 1, Nat.pow_succ, Nat.add_mul]
    rw [show dn l * (10 ^ l'.length * 10) = 10 * dn l * 10 ^ l'.length by rw [Nat.mul_comm (10 ^ l'.length), ← Nat.mul_assoc, Nat.mul_comm (dn l) 10]]
    omega
theorem drop_dg {ds : List Nat} {j : Nat} (h : j < ds.length) : dn (ds.drop j) = dg ds j * 10 ^ (ds.length - (j + 1)) + dn (ds.drop (j + 1)) := by
  rw [List.drop_eq_getElem_cons h]
  have e : ds[j] :: ds.drop (j + 1) = [ds[j]] ++ ds.drop (j + 1) := rfl
  rw [e, dn_append, List.length_drop, dg_lt h]
  simp [dn]

theorem db1_after (P : Nat) (ds : List Nat) : ∀ (f n : Nat) (i : Int) (l : List Nat), i < 0 → 0 < l.length → (n = 0 → 0 < dg l (l.length - 1)) → (∀ j, dg l j < 10) → n < 10 ^ f →
    ∃ out, db1 P ds (f + 1) n i l = some out ∧ rn out = rn l + n * 10 ^ l.length ∧ 0 < dg out (out.length - 1) ∧ (∀ j, dg out j < 10) ∧ 0 < out.length ∧ out.length ≤ l.length + f := by
  intro f
  induction f with
  | zero =>
    intro n i l hi hl h0 hd hn
    have : n = 0 := by simpa using hn
    subst this
    rw [db1, if_neg (by omega), if_neg (by omega)]
    exact ⟨l, rfl, by simp, h0 rfl, hd, hl, by omega⟩
  | succ f ih =>
    intro n i l hi hl h0 hd hn
    rw [db1, if_neg (by omega)]
    by_cases hnp : 0 < n
    · rw [if_pos hnp]
      have e1 : (l ++ [n % 10]).length = l.length + 1 := by simp
      obtain ⟨out, h1, h2, h3, h4, h5, h6⟩ := ih (n / 10) (i - 1) (l ++ [n % 10]) (by omega) (by omega) (by
        intro hz
        rw [e1, Nat.add_sub_cancel, dg_append, if_neg (by omega), Nat.sub_self]
        show 0 < n % 10
        omega) (by
        intro j; rw [dg_append]; split
        · exact hd j
        · unfold dg
          cases j - l.length with
          | zero => show n % 10 < 10; omega
          | succ m => simp) (by rw [Nat.pow_succ] at hn; omega)
      refine ⟨out, h1, ?_, h3, h4, h5, by omega⟩
      rw [h2, rn_snoc, e1, Nat.pow_succ]
      have hdm := Nat.div_add_mod n 10
      generalize 10 ^ l.length = T
      rw [Nat.add_assoc]
      congr 1
      rw [show n / 10 * (T * 10) = (10 * (n / 10)) * T by rw [Nat.mul_comm T, ← Nat.mul_assoc, Nat.mul_comm (n / 10) 10], ← Nat.add_mul]
      congr 1
      omega
    · rw [if_neg hnp]
      have : n = 0 := by omega
      subst this
      exact ⟨l, rfl, by simp, h0 rfl, hd, hl, by omega⟩

theorem db1_spec (k : Nat) (hk : k ≤ 59) (ds : List Nat) (hdig : ∀ i, dg ds i < 10) (h00 : 0 < dg ds 0) : ∀ (j f n : Nat) (l : List Nat), j ≤ ds.length → (j = 0 → 0 < l.length ∧ (n = 0 → 0 < dg l (l.length - 1))) → (∀ i, dg l i < 10) → l.length + j = ds.length → n < 2 ^ k →
    n * 10 ^ l.length + rn l = dn (ds.drop j) * 2 ^ k → j + 19 ≤ f →
    ∃ out, db1 (2 ^ k) ds f n ((j : Int) - 1) l = some out ∧ rn out = dn ds * 2 ^ k ∧ 0 < dg out (out.length - 1) ∧ (∀ i, dg out i < 10) ∧ 0 < out.length ∧ out.length ≤ ds.length + f - j := by
  intro j
  have hP : 0 < 2 ^ k := Nat.two_pow_pos k
  have hPb : 2 ^ k ≤ 576460752303423488 := two_pow_le (m := 59) hk
  induction j with
  | zero =>
    intro f n l _ h0 hd hl hn he hf
    obtain ⟨f', rfl⟩ : ∃ m, f = m + 1 := ⟨f - 1, by omega⟩
    have hpow : 10 ^ 18 ≤ 10 ^ f' := Nat.pow_le_pow_right (by omega) (by omega)
    obtain ⟨out, h1, h2, h3, h4, h5, h6⟩ := db1_after (2 ^ k) ds f' n (((0 : Nat) : Int) - 1) l (by omega) (h0 rfl).1 (h0 rfl).2 hd (by omega)
    exact ⟨out, h1, by rw [h2, Nat.add_comm, he, List.drop_zero], h3, h4, h5, by omega⟩
  | succ j ih =>
    intro f n l hj h0 hd hl hn he hf
    obtain ⟨f', rfl⟩ : ∃ m, f = m + 1 := ⟨f - 1, by omega⟩
    rw [db1, if_pos (by omega)]
    have ei : (((j + 1 : Nat) : Int) - 1).toNat = j := by omega
    have ei2 : ((j + 1 : Nat) : Int) - 1 - 1 = (j : Int) - 1 := by omega
    rw [ei, ei2]
    have hdj := hdig j
    have h9 : dg ds j * 2 ^ k ≤ 9 * 2 ^ k := Nat.mul_le_mul_right _ (by omega)
    obtain ⟨X, hX⟩ : ∃ X, X = n + dg ds j * 2 ^ k := ⟨_, rfl⟩
    rw [← hX]
    have e1 : (l ++ [X % 10]).length = l.length + 1 := by simp
    obtain ⟨out, h1, h2, h3, h4, h5, h6⟩ := ih f' (X / 10) (l ++ [X % 10]) (by omega) (by
      intro hj0
      refine ⟨by omega, fun hz => ?_⟩
      rw [e1, Nat.add_sub_cancel, dg_append, if_neg (by omega), Nat.sub_self]
      show 0 < X % 10
      subst hj0
      have : 1 * 2 ^ k ≤ dg ds 0 * 2 ^ k := Nat.mul_le_mul_right _ h00
      omega) (by
      intro i; rw [dg_append]; split
      · exact hd i
      · unfold dg
        cases i - l.length with
        | zero => show X % 10 < 10; omega
        | succ m => simp) (by omega) (by omega) (by
      rw [rn_snoc, e1, Nat.pow_succ, drop_dg (by omega), Nat.add_mul, ← he]
      have e2 : ds.length - (j + 1) = l.length := by omega
      rw [e2]
      have hdm := Nat.div_add_mod X 10
      generalize 10 ^ l.length = T at *
      have e3 : X / 10 * (T * 10) + X % 10 * T = X * T := by
        rw [show X / 10 * (T * 10) = (10 * (X / 10)) * T by rw [Nat.mul_comm T, ← Nat.mul_assoc, Nat.mul_comm (X / 10) 10], ← Nat.add_mul, hdm]
      have e4 : X * T = n * T + dg ds j * T * 2 ^ k := by rw [hX, Nat.add_mul, Nat.mul_assoc, Nat.mul_comm (2 ^ k) T, ← Nat.mul_assoc]
      omega) (by omega)
    exact ⟨out, h1, h2, h3, h4, h5, by omega⟩

def dblO (k : Nat) (ds : List Nat) : List Nat := (db1 (2 ^ k) ds 60000 0 ((ds.length : Int) - 1) []).getD []
def dblD (k : Nat) (ds : List Nat) : List Nat := trimD (dblO k ds).reverse (dblO k ds).length
def dblP (k : Nat) (ds : List Nat) (dp : Int) : Int := dp + (((dblO k ds).length : Int) - (ds.length : Int))

theorem db1_mono (P : Nat) (ds : List Nat) : ∀ (f n : Nat) (i : Int) (l r : List Nat), db1 P ds f n i l = some r → ∀ f', f ≤ f' → db1 P ds f' n i l = some r := by
  intro f
  induction f with
  | zero => intro n i l r e; simp [db1] at e
  | succ f ih =>
    intro n i l r e f' hf
    obtain ⟨f'', rfl⟩ : ∃ m, f' = m + 1 := ⟨f' - 1, by omega⟩
    rw [db1] at e ⊢
    split
    · rename_i hq; rw [if_pos hq] at e; exact ih _ _ _ _ e _ (by omega)
    · rename_i hq; rw [if_neg hq] at e
      split
      · rename_i hq2; rw [if_pos hq2] at e; exact ih _ _ _ _ e _ (by omega)
      · rename_i hq2; rw [if_neg hq2] at e; exact e

theorem dbl_spec {L k : Nat} {ds : List Nat} (h : Vd L ds) (hL : L ≤ 40000) (hk : k ≤ 59) :
    db1 (2 ^ k) ds 60000 0 ((ds.length : Int) - 1) [] = some (dblO k ds) ∧ 0 < (dblO k ds).length ∧ Vd (L + 19) (dblO k ds).reverse ∧ Vd (L + 19) (dblD k ds) ∧
    0 < dg (dblD k ds) ((dblD k ds).length - 1) ∧ (dblO k ds).length ≤ ds.length + 19 ∧ ds.length ≤ (dblO k ds).length ∧
    ∀ dp : Int, num (dn (dblD k ds)) (dblP k ds dp - (dblD k ds).length) * den (dp - ds.length) = num (dn ds * 2 ^ k) (dp - ds.length) * den (dblP k ds dp - (dblD k ds).length) := by
  obtain ⟨out, h1, h2, h3, h4, h5, h6⟩ := db1_spec k hk ds h.dig h.first ds.length (ds.length + 19) 0 [] (Nat.le_refl _) (fun e => absurd e (by have := h.pos; omega)) (by intro i; simp [dg]) (by simp) (Nat.two_pow_pos k) (by simp [rn, dn]) (by omega)
  have h1' := db1_mono _ _ _ _ _ _ _ h1 60000 (by have := h.le; omega)
  have eO : dblO k ds = out := by unfold dblO; rw [h1']; rfl
  have hlow : ds.length ≤ out.length := by
    -- rn out = dn ds * 2^k is at least 10^(length - 1)
    have hb : ∀ l : List Nat, (∀ i, dg l i < 10) → rn l < 10 ^ l.length := by
      intro l
      induction l with
      | nil => intro _; simp [rn]
      | cons d l ih =>
        intro hl
        have e0 := hl 0
        have ih' := ih (fun i => by have := hl (i + 1); simpa [dg] using this)
        rw [rn, List.length_cons, Nat.pow_succ]
        have : d < 10 := by simpa [dg] using e0
        omega
    have h7 := hb out h4
    have h8 : 10 ^ (ds.length - 1) ≤ dn ds := by
      have e := drop_dg (ds := ds) (j := 0) h.pos
      rw [List.drop_zero] at e
      rw [e]
      have : 1 * 10 ^ (ds.length - (0 + 1)) ≤ dg ds 0 * 10 ^ (ds.length - (0 + 1)) := Nat.mul_le_mul_right _ h.first
      rw [Nat.one_mul] at this
      exact Nat.le_trans this (Nat.le_add_right _ _)
    rw [h2] at h7
    have h9 : dn ds * 1 ≤ dn ds * 2 ^ k := Nat.mul_le_mul_left _ (Nat.two_pow_pos k)
    have h10 : 10 ^ (ds.length - 1) < 10 ^ out.length := by omega
    have := (Nat.pow_lt_pow_iff_right (by omega : 1 < 10)).1 h10
    have := h.pos
    omega
  have vo : Vd (L + 19) out.reverse := by
    refine ⟨by simp; omega, by simp; have := h.le; omega, fun i => ?_, ?_⟩
    · rcases Nat.lt_or_ge i out.length with hi | hi
      · rw [dg_reverse hi]; exact h4 _
      · rw [dg_end (by simp; omega)]; omega
    · rw [dg_reverse h5]; simpa using h3
  obtain ⟨v1, v2, j, v3, v4⟩ := trimD_vd vo
  rw [List.length_reverse] at v1 v2 v3 v4
  refine ⟨by rw [eO]; exact h1', by rw [eO]; exact h5, by rw [eO]; exact vo, by unfold dblD; rw [eO]; exact v1, by unfold dblD; rw [eO]; exact v2, by rw [eO]; omega, by rw [eO]; exact hlow, fun dp => ?_⟩
  unfold dblD dblP
  rw [eO]
  refine num_eq (a := j) (b := 0) ?_ (by omega)
  rw [← v4, dn_reverse, h2]
  simp

end Go.Proofs.YtknjgopapbemcaaGreatDoor
/- Plain numbers: rounding to the nearest, and the rung of a positive rational in the format of 64 bits. -/
namespace Go.Proofs.YtknjgopapbemcaaGreatDoor

/-- n / m, to the nearest whole number, ties to the even one. -/
def rne (n m : Nat) : Nat :=
  if m < 2 * (n % m) ∨ (2 * (n % m) = m ∧ n / m % 2 = 1) then n / m + 1 else n / m

theorem rne_lo (n m : Nat) : n / m ≤ rne n m := by
  unfold rne; split <;> omega

theorem rne_hi (n m : Nat) : rne n m ≤ n / m + 1 := by
  unfold rne; split <;> omega

theorem rne_mul (c n m : Nat) (hc : 0 < c) : rne (c * n) (c * m) = rne n m := by
  unfold rne
  simp only [Nat.mul_div_mul_left n m hc, Nat.mul_mod_mul_left]
  have e1 : (c * m < 2 * (c * (n % m))) ↔ (m < 2 * (n % m)) := by
    rw [Nat.mul_left_comm]; exact Nat.mul_lt_mul_left hc
  have e2 : (2 * (c * (n % m)) = c * m) ↔ (2 * (n % m) = m) := by
    rw [Nat.mul_left_comm]; exact Nat.mul_right_inj (by omega)
  simp only [e1, e2]

theorem rne_mono (m a b : Nat) (h : a ≤ b) : rne a m ≤ rne b m := by
  rcases Nat.eq_zero_or_pos m with rfl | hm
  · simp [rne]; split <;> split <;> omega
  have hd : a / m ≤ b / m := Nat.div_le_div_right h
  rcases Nat.lt_or_ge (a / m) (b / m) with hlt | hge
  · have h1 := rne_hi a m; have h2 := rne_lo b m; omega
  · have he : a / m = b / m := by omega
    have ha := Nat.div_add_mod a m
    have hb := Nat.div_add_mod b m
    rw [he] at ha
    have hr : a % m ≤ b % m := by omega
    unfold rne
    rw [he]
    split <;> split <;> omega

/-- The least place. -/
def kS : Nat := 1074
/-- The denominator of the least place. -/
def S : Nat := 2 ^ kS
theorem S_pos : 0 < S := Nat.two_pow_pos _
/-- The rungs of a binade. -/
def C : Nat := 2 ^ 52
def D : Nat := 2 ^ 53
theorem D_eq : D = 2 * C := rfl
theorem C_pos : 0 < C := Nat.two_pow_pos _
theorem D_pow (t : Nat) : 2 ^ (53 + t) = D * 2 ^ t := Nat.pow_add _ _ _
theorem C_pow (t : Nat) : 2 ^ (52 + t) = C * 2 ^ t := Nat.pow_add _ _ _
/-- The rung of infinity. -/
def infR : Nat := 2047 * C

/-- The place of the last digit that is kept, counted from the least one. -/
def plc (N M : Nat) : Nat := (N * S / M).log2 - 52

/-- The rung nearest to N / M. -/
def rung (N M : Nat) : Nat := min (plc N M * C + rne (N * S) (M * 2 ^ plc N M)) infR

theorem plc_of {N M t : Nat} (hM : 0 < M) (hhi : N * S < D * (M * 2 ^ t)) (hlo : t = 0 ∨ C * (M * 2 ^ t) ≤ N * S) :
    plc N M = t := by
  unfold plc
  generalize N * S = A at *
  have h1 : A / M < 2 ^ (53 + t) := by
    rw [Nat.div_lt_iff_lt_mul hM, D_pow]
    calc A < D * (M * 2 ^ t) := hhi
      _ = D * 2 ^ t * M := by rw [Nat.mul_comm M, Nat.mul_assoc]
  rcases hlo with rfl | hlo
  · rcases Nat.eq_zero_or_pos (A / M) with h0 | h0
    · rw [h0]; simp
    · have := (Nat.log2_lt (by omega)).2 h1
      omega
  · have h2 : 2 ^ (52 + t) ≤ A / M := by
      rw [Nat.le_div_iff_mul_le hM, C_pow]
      calc C * 2 ^ t * M = C * (M * 2 ^ t) := by rw [Nat.mul_comm M, Nat.mul_assoc]
        _ ≤ A := hlo
    have hp : 0 < 2 ^ (52 + t) := Nat.two_pow_pos _
    have h3 := (Nat.log2_lt (n := A / M) (k := 53 + t) (by omega)).2 h1
    have h4 := (Nat.le_log2 (n := A / M) (k := 52 + t) (by omega)).2 h2
    omega

theorem rung_of {N M t : Nat} (hM : 0 < M) (hhi : N * S < D * (M * 2 ^ t)) (hlo : t = 0 ∨ C * (M * 2 ^ t) ≤ N * S) :
    rung N M = min (t * C + rne (N * S) (M * 2 ^ t)) infR := by
  unfold rung; rw [plc_of hM hhi hlo]

/-- Both bounds of the place. -/
theorem plc_spec (N M : Nat) (hM : 0 < M) : N * S < D * (M * 2 ^ plc N M) ∧ (plc N M = 0 ∨ C * (M * 2 ^ plc N M) ≤ N * S) := by
  unfold plc
  generalize N * S = A
  have key : ∀ t, D * (M * 2 ^ t) = 2 ^ (53 + t) * M := fun t => by rw [D_pow, Nat.mul_comm M, Nat.mul_assoc]
  have key2 : ∀ t, C * (M * 2 ^ t) = 2 ^ (52 + t) * M := fun t => by rw [C_pow, Nat.mul_comm M, Nat.mul_assoc]
  rw [key, key2]
  rcases Nat.eq_zero_or_pos (A / M) with h0 | h0
  · rw [h0]
    refine ⟨?_, Or.inl (by simp)⟩
    have h1 : A < M := by
      rcases Nat.div_eq_zero_iff.1 h0 with h | h
      · omega
      · exact h
    have h2 : 0 < 2 ^ (53 + (Nat.log2 0 - 52)) := Nat.two_pow_pos _
    calc A < 1 * M := by omega
      _ ≤ _ := Nat.mul_le_mul_right M h2
  · have hl : A / M < 2 ^ ((A / M).log2 + 1) := Nat.lt_log2_self
    have hg : 2 ^ (A / M).log2 ≤ A / M := Nat.log2_self_le (by omega)
    constructor
    · rw [← Nat.div_lt_iff_lt_mul hM]
      exact Nat.lt_of_lt_of_le hl (Nat.pow_le_pow_right (by omega) (by omega))
    · rcases Nat.lt_or_ge (A / M).log2 52 with h | h
      · left; omega
      · right
        rw [← Nat.le_div_iff_mul_le hM]
        rw [show 52 + ((A / M).log2 - 52) = (A / M).log2 by omega]
        exact hg

theorem rung_scale (c N M : Nat) (hc : 0 < c) : rung (c * N) (c * M) = rung N M := by
  have e : plc (c * N) (c * M) = plc N M := by
    unfold plc; rw [Nat.mul_assoc, Nat.mul_div_mul_left _ _ hc]
  unfold rung
  rw [e, Nat.mul_assoc, Nat.mul_assoc, rne_mul _ _ _ hc]

theorem rung_same {N M N' M' : Nat} (hM : 0 < M) (hM' : 0 < M') (h : N * M' = N' * M) : rung N M = rung N' M' := by
  rw [← rung_scale M' N M hM', ← rung_scale M N' M' hM, Nat.mul_comm M' N, h, Nat.mul_comm N' M, Nat.mul_comm M' M]

theorem rung_mono {N M N' M' : Nat} (hM : 0 < M) (hM' : 0 < M') (h : N * M' ≤ N' * M) : rung N M ≤ rung N' M' := by
  rw [← rung_scale M' N M hM', ← rung_scale M N' M' hM, Nat.mul_comm M' M]
  have hP : 0 < M * M' := Nat.mul_pos hM hM'
  generalize M * M' = P at *
  rw [Nat.mul_comm] at h
  rw [Nat.mul_comm N' M] at h
  generalize M' * N = A at *
  generalize M * N' = B at *
  have hs : A * S ≤ B * S := Nat.mul_le_mul_right _ h
  have hpl : plc A P ≤ plc B P := by
    unfold plc
    have h1 : A * S / P ≤ B * S / P := Nat.div_le_div_right hs
    have h2 : (A * S / P).log2 ≤ (B * S / P).log2 := by
      rcases Nat.eq_zero_or_pos (A * S / P) with h0 | h0
      · rw [h0]; simp
      · exact (Nat.le_log2 (by omega)).2 (Nat.le_trans (Nat.log2_self_le (by omega)) h1)
    omega
  have sa := plc_spec A P hP
  have sb := plc_spec B P hP
  unfold rung
  rcases Nat.lt_or_ge (plc A P) (plc B P) with hlt | hge
  · have h1 : rne (A * S) (P * 2 ^ plc A P) ≤ D := by
      have := rne_hi (A * S) (P * 2 ^ plc A P)
      have hlt2 : A * S / (P * 2 ^ plc A P) < D := by
        rw [Nat.div_lt_iff_lt_mul (Nat.mul_pos hP (Nat.two_pow_pos _))]; exact sa.1
      omega
    have h2 : C ≤ rne (B * S) (P * 2 ^ plc B P) := by
      have := rne_lo (B * S) (P * 2 ^ plc B P)
      have hle : C ≤ B * S / (P * 2 ^ plc B P) := by
        rw [Nat.le_div_iff_mul_le (Nat.mul_pos hP (Nat.two_pow_pos _))]
        rcases sb.2 with h | h
        · omega
        · exact h
      omega
    have hD := D_eq
    have h3 : (plc A P + 1) * C ≤ plc B P * C := Nat.mul_le_mul_right _ hlt
    rw [Nat.add_mul] at h3
    generalize plc A P * C = a at *
    generalize plc B P * C = b at *
    generalize rne (A * S) (P * 2 ^ plc A P) = x at *
    generalize rne (B * S) (P * 2 ^ plc B P) = y at *
    have hCC : 1 * C = C := Nat.one_mul _
    generalize infR = I
    omega
  · have he : plc A P = plc B P := by omega
    rw [he]
    have := rne_mono (P * 2 ^ plc B P) _ _ hs
    generalize infR = I
    generalize plc B P * C = b
    generalize rne (A * S) (P * 2 ^ plc B P) = x at *
    generalize rne (B * S) (P * 2 ^ plc B P) = y at *
    omega

theorem rung_le (N M : Nat) : rung N M ≤ infR := Nat.min_le_right _ _
theorem rung_zero (M : Nat) : rung 0 M = 0 := by
  simp [rung, plc, rne]
end Go.Proofs.YtknjgopapbemcaaGreatDoor
/- Plain arithmetic of decimals: the nearest whole number; how great a decimal is. No program in sight. -/
namespace Go.Proofs.YtknjgopapbemcaaGreatDoor
set_option linter.unusedVariables false
set_option linter.unusedSimpArgs false

/-- Whether the nearest number of n digits is above. -/
def nearU (ds : List Nat) (n : Nat) : Bool :=
  if ds.length ≤ n then false
  else if dg ds n = 5 ∧ n + 1 = ds.length then decide (0 < n) && decide (dg ds (n - 1) % 2 ≠ 0)
  else decide (5 ≤ dg ds n)
/-- The nearest whole number of a decimal. -/
def wholeN (ds : List Nat) (n : Nat) : Nat := tn ds n + (nearU ds n).toNat

theorem dn_drop_lt {ds : List Nat} (hd : ∀ i, dg ds i < 10) : ∀ (m j : Nat), ds.length - j = m → dn (ds.drop j) < 10 ^ m := by
  intro m
  induction m with
  | zero => intro j h; rw [List.drop_eq_nil_of_le (by omega)]; simp [dn]
  | succ m ih =>
    intro j h
    rw [drop_dg (by omega), show ds.length - (j + 1) = m by omega, Nat.pow_succ]
    have h1 := ih (j + 1) (by omega)
    have h2 := hd j
    have h3 : dg ds j * 10 ^ m ≤ 9 * 10 ^ m := Nat.mul_le_mul_right _ (by omega)
    omega
theorem dn_drop_pos {ds : List Nat} (hl : 0 < dg ds (ds.length - 1)) {j : Nat} (h : j < ds.length) : 0 < dn (ds.drop j) := by
  have e : dn (ds.drop j) = dn ((ds.drop j).take (ds.length - 1 - j)) * 10 ^ 1 + dg ds (ds.length - 1) := by
    have h1 : ds.drop j = (ds.drop j).take (ds.length - 1 - j) ++ [dg ds (ds.length - 1)] := by
      apply List.ext_getElem
      · simp; omega
      · intro i h1 h2
        simp at h1
        by_cases hi : i < ds.length - 1 - j
        · rw [List.getElem_append_left (by simp; omega)]; simp
        · rw [List.getElem_append_right (by simp; omega)]
          simp
          rw [dg_lt (by omega)]
          congr 1; omega
    have h2 := dn_snoc ((ds.drop j).take (ds.length - 1 - j)) (dg ds (ds.length - 1))
    rw [← h1] at h2
    rw [h2]; omega
  omega

theorem dn_split {ds : List Nat} {n : Nat} (h : n ≤ ds.length) : dn ds = dn (ds.take n) * 10 ^ (ds.length - n) + dn (ds.drop n) := by
  have e := dn_append (ds.take n) (ds.drop n)
  rw [List.take_append_drop, List.length_drop] at e
  exact e

theorem rne_one (x : Nat) : rne x 1 = x := by
  unfold rne; rw [Nat.mod_one, Nat.div_one, if_neg (by omega)]

theorem div_of {x q m r : Nat} (h : x = q * m + r) (hr : r < m) : x / m = q ∧ x % m = r := by
  have hm : 0 < m := by omega
  constructor
  · rw [h, Nat.mul_comm, Nat.mul_add_div hm, Nat.div_eq_of_lt hr]; omega
  · rw [h, Nat.mul_comm, Nat.mul_add_mod, Nat.mod_eq_of_lt hr]

theorem whole_rne {L : Nat} {ds : List Nat} (h : Vd L ds) (hl : 0 < dg ds (ds.length - 1)) (n : Nat) :
    wholeN ds n = rne (num (dn ds) ((n : Int) - ds.length)) (den ((n : Int) - ds.length)) := by
  unfold wholeN num den
  rcases Nat.lt_or_ge n ds.length with hn | hn
  · have e1 : ((n : Int) - ds.length).toNat = 0 := by omega
    obtain ⟨j, hj⟩ : ∃ j, ds.length - n = j + 1 := ⟨ds.length - n - 1, by omega⟩
    have e2 : (-((n : Int) - ds.length)).toNat = j + 1 := by omega
    rw [e1, e2, Nat.pow_zero, Nat.mul_one]
    have hs := dn_split (ds := ds) (n := n) (by omega)
    rw [hj] at hs
    have hR := dn_drop_lt h.dig (j + 1) n hj
    have hd := drop_dg hn
    rw [show ds.length - (n + 1) = j by omega] at hd
    have hR' := dn_drop_lt h.dig j (n + 1) (by omega)
    have h9 := h.dig n
    have ht : tn ds n = dn (ds.take n) := tn_take ds n (by omega)
    rw [ht]
    obtain ⟨hq, hm⟩ := div_of hs hR
    unfold rne
    rw [hq, hm]
    rw [Nat.pow_succ] at *
    have hT : 0 < 10 ^ j := Nat.pow_pos (by omega)
    -- the last digit ahead of the point
    have hodd : dn (ds.take n) % 2 = 1 ↔ (0 < n ∧ dg ds (n - 1) % 2 ≠ 0) := by
      rcases Nat.eq_zero_or_pos n with rfl | h0
      · simp [dn]
      · have e3 : ds.take n = ds.take (n - 1) ++ [dg ds (n - 1)] := by
          have := take_snoc_dg (l := ds) (i := n - 1) (by omega)
          rw [show n - 1 + 1 = n by omega] at this
          exact this
        rw [e3, dn_snoc]
        constructor
        · intro h; exact ⟨h0, by omega⟩
        · intro h; omega
    have hend : dn (ds.drop (n + 1)) = 0 ↔ n + 1 = ds.length := by
      constructor
      · intro h0
        rcases Nat.lt_or_ge (n + 1) ds.length with h1 | h1
        · have := dn_drop_pos hl h1; omega
        · omega
      · intro h0
        rw [List.drop_eq_nil_of_le (by omega)]; rfl
    unfold nearU
    rw [if_neg (by omega)]
    generalize dn (ds.take n) = q at *
    generalize dn (ds.drop n) = R at *
    generalize dn (ds.drop (n + 1)) = R' at *
    generalize dg ds n = d at *
    generalize dg ds (n - 1) = d1 at *
    generalize 10 ^ j = T at *
    by_cases h5 : d = 5
    · subst h5
      by_cases hz : n + 1 = ds.length
      · have hz' := hend.2 hz
        rw [if_pos ⟨rfl, hz⟩]
        by_cases ho : q % 2 = 1
        · have ho' := hodd.1 ho
          rw [if_pos (by right; exact ⟨by omega, ho⟩)]
          have : (decide (0 < n) && decide (d1 % 2 ≠ 0)) = true := by simp; omega
          rw [this]; rfl
        · have ho' : ¬ (0 < n ∧ d1 % 2 ≠ 0) := fun h => ho (hodd.2 h)
          rw [if_neg (by omega)]
          have : (decide (0 < n) && decide (d1 % 2 ≠ 0)) = false := by
            rw [Bool.eq_false_iff]; intro h; apply ho'; simpa using h
          rw [this]; rfl
      · rw [if_neg (by omega)]
        have hz' : R' ≠ 0 := fun h => hz (hend.1 h)
        rw [if_pos (by left; omega)]
        rfl
    · rw [if_neg (by omega)]
      by_cases h6 : 5 ≤ d
      · have h7 : 6 * T ≤ d * T := Nat.mul_le_mul_right _ (by omega)
        rw [if_pos (by left; omega)]
        simp [h6]
      · have h7 : d * T ≤ 4 * T := Nat.mul_le_mul_right _ (by omega)
        rw [if_neg (by omega)]
        simp [h6]
  · have e1 : ((n : Int) - ds.length).toNat = n - ds.length := by omega
    have e2 : (-((n : Int) - ds.length)).toNat = 0 := by omega
    rw [e1, e2, Nat.pow_zero, rne_one]
    unfold nearU
    rw [if_pos hn]
    have := tn_over ds (n - ds.length)
    rw [show ds.length + (n - ds.length) = n by omega] at this
    rw [this]; rfl

/-- How great a decimal is: 10^(dp-1) at least, less than 10^dp. -/
theorem dn_lo {L : Nat} {ds : List Nat} (h : Vd L ds) : 10 ^ (ds.length - 1) ≤ dn ds := by
  have e := drop_dg (ds := ds) (j := 0) h.pos
  rw [List.drop_zero] at e
  rw [e]
  have : 1 * 10 ^ (ds.length - (0 + 1)) ≤ dg ds 0 * 10 ^ (ds.length - (0 + 1)) := Nat.mul_le_mul_right _ h.first
  rw [Nat.one_mul] at this
  exact Nat.le_trans this (Nat.le_add_right _ _)
theorem dn_hi {L : Nat} {ds : List Nat} (h : Vd L ds) : dn ds < 10 ^ ds.length := by
  have := dn_drop_lt h.dig ds.length 0 (by omega)
  rwa [List.drop_zero] at this
theorem dn_hi5 {L : Nat} {ds : List Nat} (h : Vd L ds) (h5 : dg ds 0 < 5) : 2 * dn ds < 10 ^ ds.length := by
  have e := drop_dg (ds := ds) (j := 0) h.pos
  rw [List.drop_zero] at e
  have h1 := dn_drop_lt h.dig (ds.length - 1) 1 (by omega)
  have hp : 10 ^ ds.length = 10 * 10 ^ (ds.length - 1) := by
    have := h.pos
    rw [Nat.mul_comm, ← Nat.pow_succ]; congr 1; omega
  rw [e, hp]
  have h3 : dg ds 0 * 10 ^ (ds.length - (0 + 1)) ≤ 4 * 10 ^ (ds.length - (0 + 1)) := Nat.mul_le_mul_right _ (by omega)
  rw [show ds.length - (0 + 1) = ds.length - 1 by omega] at *
  rw [show 0 + 1 = 1 by rfl] at *
  omega
theorem dn_lo5 {ds : List Nat} (hp0 : 0 < ds.length) (h5 : 5 ≤ dg ds 0) : 10 ^ ds.length ≤ 2 * dn ds := by
  have e := drop_dg (ds := ds) (j := 0) hp0
  rw [List.drop_zero] at e
  have hp : 10 ^ ds.length = 10 * 10 ^ (ds.length - 1) := by
    rw [Nat.mul_comm, ← Nat.pow_succ]; congr 1; omega
  rw [e, hp]
  have h3 : 5 * 10 ^ (ds.length - (0 + 1)) ≤ dg ds 0 * 10 ^ (ds.length - (0 + 1)) := Nat.mul_le_mul_right _ h5
  rw [show ds.length - (0 + 1) = ds.length - 1 by omega] at *
  omega
end Go.Proofs.YtknjgopapbemcaaGreatDoor
/- Plain arithmetic: the value of a decimal times a power of two; what the steps of bits do to it. No program in sight. -/
namespace Go.Proofs.YtknjgopapbemcaaGreatDoor
set_option linter.unusedVariables false
set_option linter.unusedSimpArgs false

/-- Numerator and denominator of a decimal. -/
def vn (ds : List Nat) (dp : Int) : Nat := num (dn ds) (dp - ds.length)
def vd (ds : List Nat) (dp : Int) : Nat := den (dp - ds.length)
theorem vd_pos (ds : List Nat) (dp : Int) : 0 < vd ds dp := den_pos _

/-- The decimal times 2^e is N / M. -/
def Val (ds : List Nat) (dp e : Int) (N M : Nat) : Prop := vn ds dp * 2 ^ e.toNat * M = N * (vd ds dp * 2 ^ (-e).toNat)

theorem two_shift {A B x y x' y' : Nat} (h : A * 2 ^ x = B * 2 ^ y) (hxy : x + y' = x' + y) : A * 2 ^ x' = B * 2 ^ y' := by
  have hp : 0 < 2 ^ y := Nat.two_pow_pos y
  apply Nat.eq_of_mul_eq_mul_right hp
  calc A * 2 ^ x' * 2 ^ y = A * 2 ^ (x' + y) := by rw [Nat.pow_add, Nat.mul_assoc]
    _ = A * 2 ^ x * 2 ^ y' := by rw [← hxy, Nat.pow_add, Nat.mul_assoc]
    _ = B * 2 ^ y * 2 ^ y' := by rw [h]
    _ = B * 2 ^ y' * 2 ^ y := by rw [Nat.mul_assoc, Nat.mul_comm (2 ^ y), ← Nat.mul_assoc]

theorem val_mk {a b N M : Nat} {e : Int} {x y : Nat} (h : a * M * 2 ^ x = N * b * 2 ^ y) (he : (x : Int) - y = e) : a * 2 ^ e.toNat * M = N * (b * 2 ^ (-e).toNat) := by
  have h2 := two_shift (x' := e.toNat) (y' := (-e).toNat) h (by omega)
  rw [Nat.mul_right_comm, h2, Nat.mul_assoc]
theorem val_open {a b N M : Nat} {e : Int} (h : a * 2 ^ e.toNat * M = N * (b * 2 ^ (-e).toNat)) {x y : Nat} (he : (x : Int) - y = e) : a * M * 2 ^ x = N * b * 2 ^ y := by
  refine two_shift (x := e.toNat) (y := (-e).toNat) ?_ (by omega)
  rw [Nat.mul_right_comm, h, Nat.mul_assoc]

/-- From one fraction to another that is 2^j times it. -/
theorem val_step {a b a' b' N M : Nat} {e : Int} {i j : Nat} (hb : 0 < b) (h : a * 2 ^ e.toNat * M = N * (b * 2 ^ (-e).toNat)) (hs : a' * 2 ^ i * b = a * 2 ^ j * b') :
    a' * 2 ^ (e + i - j).toNat * M = N * (b' * 2 ^ (-(e + i - j)).toNat) := by
  have h1 := val_open h (x := e.toNat) (y := (-e).toNat) (by omega)
  refine val_mk (x := e.toNat + i) (y := (-e).toNat + j) ?_ (by omega)
  apply Nat.eq_of_mul_eq_mul_right hb
  calc a' * M * 2 ^ (e.toNat + i) * b = a' * 2 ^ i * b * (M * 2 ^ e.toNat) := by
        rw [Nat.pow_add]; ac_rfl
    _ = a * 2 ^ j * b' * (M * 2 ^ e.toNat) := by rw [hs]
    _ = a * M * 2 ^ e.toNat * (2 ^ j * b') := by ac_rfl
    _ = N * b * 2 ^ (-e).toNat * (2 ^ j * b') := by rw [h1]
    _ = N * b' * 2 ^ ((-e).toNat + j) * b := by rw [Nat.pow_add]; ac_rfl

theorem half_frac {L k : Nat} {ds : List Nat} (h : Vd L ds) (hL : L ≤ 40000) (hk1 : 1 ≤ k) (hk2 : k ≤ 59) (dp : Int) : vn (halfD k ds) (halfP k ds dp) * 2 ^ k * vd ds dp = vn ds dp * 2 ^ 0 * vd (halfD k ds) (halfP k ds dp) := by
  have e := (half_spec h hL hk1 hk2).2.2.2.2.2.2.2.2 dp
  unfold vn vd
  rw [Nat.pow_zero, Nat.mul_one, ← e]
  unfold num
  ac_rfl
theorem dbl_frac {L k : Nat} {ds : List Nat} (h : Vd L ds) (hL : L ≤ 40000) (hk2 : k ≤ 59) (dp : Int) : vn (dblD k ds) (dblP k ds dp) * 2 ^ 0 * vd ds dp = vn ds dp * 2 ^ k * vd (dblD k ds) (dblP k ds dp) := by
  have e := (dbl_spec h hL hk2).2.2.2.2.2.2.2 dp
  unfold vn vd
  rw [Nat.pow_zero, Nat.mul_one, e]
  unfold num
  ac_rfl

theorem val_half {L k : Nat} {ds : List Nat} {dp e : Int} {N M : Nat} (h : Vd L ds) (hL : L ≤ 40000) (hk1 : 1 ≤ k) (hk2 : k ≤ 59) (hv : Val ds dp e N M) : Val (halfD k ds) (halfP k ds dp) (e + k) N M := by
  have := val_step (vd_pos _ _) hv (half_frac h hL hk1 hk2 dp)
  rw [show e + (k : Int) - ((0 : Nat) : Int) = e + k by omega] at this
  exact this
theorem val_dbl {L k : Nat} {ds : List Nat} {dp e : Int} {N M : Nat} (h : Vd L ds) (hL : L ≤ 40000) (hk2 : k ≤ 59) (hv : Val ds dp e N M) : Val (dblD k ds) (dblP k ds dp) (e - k) N M := by
  have := val_step (vd_pos _ _) hv (dbl_frac h hL hk2 dp)
  rw [show e + ((0 : Nat) : Int) - (k : Int) = e - k by omega] at this
  exact this

/-- A multiplication by a power of two, in steps of 59. -/
def shf : Nat → Int → List Nat → Int → List Nat × Int
  | 0, _, ds, dp => (ds, dp)
  | f + 1, k, ds, dp =>
    if 59 < k then shf f (k - 59) (dblD 59 ds) (dblP 59 ds dp)
    else if k < -59 then shf f (k + 59) (halfD 59 ds) (halfP 59 ds dp)
    else if 0 < k then (dblD k.toNat ds, dblP k.toNat ds dp)
    else if k < 0 then (halfD (-k).toNat ds, halfP (-k).toNat ds dp)
    else (ds, dp)

theorem val_shf {N M : Nat} : ∀ (f : Nat) (k : Int) (L : Nat) (ds : List Nat) (dp e : Int), Vd L ds → L + 60 * f ≤ 40000 → -(59 * f : Int) ≤ k → k ≤ 59 * f → Val ds dp e N M →
    Val (shf f k ds dp).1 (shf f k ds dp).2 (e - k) N M := by
  intro f
  induction f with
  | zero => intro k L ds dp e _ _ h1 h2 hv; rw [show k = 0 by omega, Int.sub_zero]; exact hv
  | succ f ih =>
    intro k L ds dp e h hL h1 h2 hv
    rw [shf]
    split
    · have hh := (dbl_spec (k := 59) h (by omega) (by omega)).2.2.2.1
      have := ih (k - 59) (L + 60) _ _ _ ⟨hh.pos, by have := hh.le; omega, hh.dig, hh.first⟩ (by omega) (by omega) (by omega) (val_dbl (k := 59) h (by omega) (by omega) hv)
      rw [show e - ((59 : Nat) : Int) - (k - 59) = e - k by omega] at this
      exact this
    · split
      · have hh := (half_spec (k := 59) h (by omega) (by omega) (by omega)).2.2.2.2.1
        have := ih (k + 59) (L + 60) _ _ _ ⟨hh.pos, by have := hh.le; omega, hh.dig, hh.first⟩ (by omega) (by omega) (by omega) (val_half (k := 59) h (by omega) (by omega) (by omega) hv)
        rw [show e + ((59 : Nat) : Int) - (k + 59) = e - k by omega] at this
        exact this
      · split
        · have := val_dbl (k := k.toNat) h (by omega) (by omega) hv
          rw [show ((k.toNat : Nat) : Int) = k by omega] at this
          exact this
        · split
          · have := val_half (k := (-k).toNat) h (by omega) (by omega) (by omega) hv
            rw [show e + (((-k).toNat : Nat) : Int) = e - k by omega] at this
            exact this
          · rw [show k = 0 by omega, Int.sub_zero]; exact hv

/-! ### How great it is -/
theorem ge_one {L : Nat} {ds : List Nat} {dp : Int} (h : Vd L ds) (hd : 1 ≤ dp) : vd ds dp ≤ vn ds dp := by
  unfold vd vn num den
  have h1 := dn_lo h
  have h2 : 10 ^ (-(dp - ds.length)).toNat ≤ 10 ^ (ds.length - 1) * 10 ^ (dp - ds.length).toNat := by
    rw [← Nat.pow_add]; exact Nat.pow_le_pow_right (by omega) (by have := h.pos; omega)
  exact Nat.le_trans h2 (Nat.mul_le_mul_right _ h1)
theorem lt_ten {L : Nat} {ds : List Nat} {dp : Int} (h : Vd L ds) (m : Nat) (hd : dp ≤ -(m : Int)) : vn ds dp * 10 ^ m < vd ds dp := by
  unfold vd vn num den
  have h1 := dn_hi h
  have e1 : (dp - ds.length).toNat = 0 := by omega
  rw [e1, Nat.pow_zero, Nat.mul_one]
  have h2 : 10 ^ ds.length * 10 ^ m ≤ 10 ^ (-(dp - ds.length)).toNat := by
    rw [← Nat.pow_add]; exact Nat.pow_le_pow_right (by omega) (by omega)
  exact Nat.lt_of_lt_of_le (Nat.mul_lt_mul_of_pos_right h1 (Nat.pow_pos (by omega))) h2
theorem lt_one {L : Nat} {ds : List Nat} {dp : Int} (h : Vd L ds) (hd : dp ≤ 0) : vn ds dp < vd ds dp := by
  have := lt_ten h 0 (dp := dp) (by omega)
  simpa using this
theorem lt_half {L : Nat} {ds : List Nat} (h : Vd L ds) (h5 : dg ds 0 < 5) : vn ds 0 * 2 < vd ds 0 := by
  unfold vd vn num den
  have h1 := dn_hi5 h h5
  rw [show ((0 : Int) - ds.length).toNat = 0 by omega, show (-((0 : Int) - ds.length)).toNat = ds.length by omega, Nat.pow_zero]
  omega
theorem ge_half {L : Nat} {ds : List Nat} (h : Vd L ds) (h5 : 5 ≤ dg ds 0) : vd ds 0 ≤ vn ds 0 * 2 := by
  unfold vd vn num den
  have h1 := dn_lo5 h.pos h5
  rw [show ((0 : Int) - ds.length).toNat = 0 by omega, show (-((0 : Int) - ds.length)).toNat = ds.length by omega, Nat.pow_zero]
  omega
/-- Less than 10^m. -/
theorem lt_pow {L : Nat} {ds : List Nat} {dp : Int} (h : Vd L ds) (m : Nat) (hd : dp ≤ m) : vn ds dp < 10 ^ m * vd ds dp := by
  unfold vd vn num den
  have h1 := dn_hi h
  have h2 : 10 ^ ds.length * 10 ^ (dp - ds.length).toNat ≤ 10 ^ m * 10 ^ (-(dp - ds.length)).toNat := by
    rw [← Nat.pow_add, ← Nat.pow_add]; exact Nat.pow_le_pow_right (by omega) (by omega)
  exact Nat.lt_of_lt_of_le (Nat.mul_lt_mul_of_pos_right h1 (Nat.pow_pos (by omega))) h2
/-- At least 10^(dp-1). -/
theorem ge_pow {L : Nat} {ds : List Nat} {dp : Int} (h : Vd L ds) (m : Nat) (hd : (m : Int) + 1 ≤ dp) : 10 ^ m * vd ds dp ≤ vn ds dp := by
  unfold vd vn num den
  have h1 := dn_lo h
  have h2 : 10 ^ m * 10 ^ (-(dp - ds.length)).toNat ≤ 10 ^ (ds.length - 1) * 10 ^ (dp - ds.length).toNat := by
    rw [← Nat.pow_add, ← Nat.pow_add]; exact Nat.pow_le_pow_right (by omega) (by have := h.pos; omega)
  exact Nat.le_trans h2 (Nat.mul_le_mul_right _ h1)
/-- At least 10^-m. -/
theorem ge_neg {L : Nat} {ds : List Nat} {dp : Int} (h : Vd L ds) (m : Nat) (hd : -(m : Int) + 1 ≤ dp) : vd ds dp ≤ vn ds dp * 10 ^ m := by
  unfold vd vn num den
  have h1 := dn_lo h
  have h2 : 10 ^ (-(dp - ds.length)).toNat ≤ 10 ^ (ds.length - 1) * 10 ^ (dp - ds.length).toNat * 10 ^ m := by
    rw [← Nat.pow_add, ← Nat.pow_add]; exact Nat.pow_le_pow_right (by omega) (by have := h.pos; omega)
  exact Nat.le_trans h2 (Nat.mul_le_mul_right _ (Nat.mul_le_mul_right _ h1))

theorem pow_le_pow10 (m : Nat) : 2 ^ (3 * m) ≤ 10 ^ m := by
  rw [Nat.pow_mul]; exact Nat.pow_le_pow_left (by omega) m

/-- The step of the first loop. -/
theorem stepA {a b a' b' k m : Nat} (hb : 0 < b) (hb' : 0 < b') (hs : a' * 2 ^ k * b = a * 2 ^ 0 * b') (h : a < 2 ^ m * b) : a' < 2 ^ (m - k) * b' := by
  rw [Nat.pow_zero, Nat.mul_one] at hs
  have h1 : a' * 2 ^ k * b < 2 ^ m * b' * b := by
    rw [hs, Nat.mul_right_comm]; exact Nat.mul_lt_mul_of_pos_right h hb'
  have h2 : a' * 2 ^ k < 2 ^ m * b' := Nat.lt_of_mul_lt_mul_right h1
  rcases Nat.le_total k m with hk | hk
  · have e : 2 ^ m = 2 ^ (m - k) * 2 ^ k := by rw [← Nat.pow_add]; congr 1; omega
    rw [e, Nat.mul_right_comm] at h2
    exact Nat.lt_of_mul_lt_mul_right h2
  · rw [show m - k = 0 by omega, Nat.pow_zero, Nat.one_mul]
    have h3 : 2 ^ m * b' ≤ 2 ^ k * b' := Nat.mul_le_mul_right _ (two_pow_le hk)
    have h4 : a' * 2 ^ k < b' * 2 ^ k := by rw [Nat.mul_comm b']; omega
    exact Nat.lt_of_mul_lt_mul_right h4
theorem stepA_lo {a b a' b' k : Nat} (hb : 0 < b) (hs : a' * 2 ^ k * b = a * 2 ^ 0 * b') (h : b ≤ a) : b' ≤ a' * 2 ^ k := by
  rw [Nat.pow_zero, Nat.mul_one] at hs
  have h1 : b' * b ≤ a' * 2 ^ k * b := by rw [hs, Nat.mul_comm a]; exact Nat.mul_le_mul_left _ h
  exact Nat.le_of_mul_le_mul_right h1 hb
/-- The step of the second loop. -/
theorem stepB {a b a' b' k m : Nat} (hb : 0 < b) (hs : a' * 2 ^ 0 * b = a * 2 ^ k * b') (h : b ≤ a * 2 ^ m) (hlt : a' < b') : k < m ∧ b' ≤ a' * 2 ^ (m - k) := by
  rw [Nat.pow_zero, Nat.mul_one] at hs
  have h1 : b' * 2 ^ k * b ≤ a' * 2 ^ m * b := by
    calc b' * 2 ^ k * b ≤ b' * 2 ^ k * (a * 2 ^ m) := Nat.mul_le_mul_left _ h
      _ = a * 2 ^ k * b' * 2 ^ m := by ac_rfl
      _ = a' * b * 2 ^ m := by rw [hs]
      _ = a' * 2 ^ m * b := by ac_rfl
  have h2 : b' * 2 ^ k ≤ a' * 2 ^ m := Nat.le_of_mul_le_mul_right h1 hb
  have hkm : k < m := by
    rcases Nat.lt_or_ge k m with h | h
    · exact h
    · have h3 : a' * 2 ^ m ≤ a' * 2 ^ k := Nat.mul_le_mul_left _ (two_pow_le h)
      have h4 : b' ≤ a' := Nat.le_of_mul_le_mul_right (Nat.le_trans h2 h3) (Nat.two_pow_pos k)
      omega
  refine ⟨hkm, ?_⟩
  have e : 2 ^ m = 2 ^ (m - k) * 2 ^ k := by rw [← Nat.pow_add]; congr 1; omega
  rw [e, ← Nat.mul_assoc] at h2
  exact Nat.le_of_mul_le_mul_right h2 (Nat.two_pow_pos k)
theorem stepB_lt {a b a' b' k : Nat} (hb : 0 < b) (hb' : 0 < b') (hs : a' * 2 ^ 0 * b = a * 2 ^ k * b') (h : a * 2 ^ k < b) : a' < b' := by
  rw [Nat.pow_zero, Nat.mul_one] at hs
  have h1 : a' * b < b' * b := by rw [hs, Nat.mul_comm b']; exact Nat.mul_lt_mul_of_pos_right h hb'
  exact Nat.lt_of_mul_lt_mul_right h1
end Go.Proofs.YtknjgopapbemcaaGreatDoor
/- Plain arithmetic: what bits answers is the rung. No program in sight. -/
namespace Go.Proofs.YtknjgopapbemcaaGreatDoor
set_option linter.unusedVariables false
set_option linter.unusedSimpArgs false

theorem rne_same {n m n' m' : Nat} (hm : 0 < m) (hm' : 0 < m') (h : n * m' = n' * m) : rne n m = rne n' m' := by
  rw [← rne_mul m' n m hm', ← rne_mul m n' m' hm, Nat.mul_comm m' n, h, Nat.mul_comm n' m, Nat.mul_comm m' m]

theorem S_eq : S = 2 ^ kS := rfl
theorem kS_eq : kS = 1074 := rfl

/-- A fraction of the right size, at the place t. -/
theorem rung_at {N M a b t : Nat} (hM : 0 < M) (hb : 0 < b) (hv : a * M * 2 ^ t = N * b * S) (hhi : a < D * b) (hlo : t = 0 ∨ C * b ≤ a) :
    rung N M = min (t * C + rne a b) infR := by
  have hT : 0 < 2 ^ t := Nat.two_pow_pos t
  have e : N * S * b = a * (M * 2 ^ t) := by rw [← Nat.mul_assoc, hv, Nat.mul_right_comm]
  have h1 : N * S < D * (M * 2 ^ t) := by
    have : N * S * b < D * (M * 2 ^ t) * b := by
      rw [e]
      calc a * (M * 2 ^ t) < D * b * (M * 2 ^ t) := Nat.mul_lt_mul_of_pos_right hhi (Nat.mul_pos hM hT)
        _ = D * (M * 2 ^ t) * b := by ac_rfl
    exact Nat.lt_of_mul_lt_mul_right this
  have h2 : t = 0 ∨ C * (M * 2 ^ t) ≤ N * S := by
    rcases hlo with h | h
    · exact .inl h
    · right
      have : C * (M * 2 ^ t) * b ≤ N * S * b := by
        rw [e]
        calc C * (M * 2 ^ t) * b = C * b * (M * 2 ^ t) := by ac_rfl
          _ ≤ a * (M * 2 ^ t) := Nat.mul_le_mul_right _ h
      exact Nat.le_of_mul_le_mul_right this hb
  rw [rung_of hM h1 h2, rne_same (Nat.mul_pos hM hT) hb e]

theorem rung_inf {N M j : Nat} (hM : 0 < M) (hj : j = 1024) (h : 2 ^ j * M ≤ N) : rung N M = infR := by
  have hp : 2046 ≤ plc N M := by
    have hs := plc_spec N M hM
    rcases Nat.lt_or_ge (plc N M) 2046 with hlt | hge
    · exfalso
      obtain ⟨q, hq⟩ : ∃ q, q = 53 + plc N M := ⟨_, rfl⟩
      have h2 : N * S < M * 2 ^ q := by
        refine Nat.lt_of_lt_of_le hs.1 (Nat.le_of_eq ?_)
        rw [hq, D_pow, Nat.mul_left_comm]
      have h3 : 2 ^ j * M * S ≤ N * S := Nat.mul_le_mul_right _ h
      have e2 : 2 ^ j * M * S = M * 2 ^ (j + kS) := by rw [Nat.pow_add, S_eq, Nat.mul_comm (2 ^ j), Nat.mul_assoc]
      rw [e2] at h3
      have h4 : 2 ^ q ≤ 2 ^ (j + kS) := two_pow_le (by have := kS_eq; omega)
      have h5 := Nat.mul_le_mul_left M h4
      omega
    · exact hge
  have hs := plc_spec N M hM
  have hk : C ≤ rne (N * S) (M * 2 ^ plc N M) := by
    refine Nat.le_trans ?_ (rne_lo _ _)
    rw [Nat.le_div_iff_mul_le (Nat.mul_pos hM (Nat.two_pow_pos _))]
    rcases hs.2 with h0 | h0
    · omega
    · exact h0
  unfold rung
  have h1 : 2046 * C ≤ plc N M * C := Nat.mul_le_mul_right _ hp
  have h2 : infR = 2046 * C + C := by rw [← Nat.succ_mul]; rfl
  generalize plc N M * C = x at *
  generalize rne (N * S) (M * 2 ^ plc N M) = y at *
  rw [h2]
  generalize C = c at *
  omega

/-- The whole number that whole answers. -/
def mantOf (ds : List Nat) (dp : Int) : Nat := if dp < 0 then 0 else wholeN ds dp.toNat
theorem mantOf_rne {L : Nat} {ds : List Nat} {dp : Int} (h : Vd L ds) (hl : 0 < dg ds (ds.length - 1)) : mantOf ds dp = rne (vn ds dp) (vd ds dp) := by
  unfold mantOf
  split
  · rename_i hn
    have h1 := lt_ten h 1 (dp := dp) (by omega)
    unfold rne
    rw [Nat.div_eq_of_lt (by omega), Nat.mod_eq_of_lt (by omega), if_neg (by omega)]
  · have := whole_rne h hl dp.toNat
    rw [show ((dp.toNat : Nat) : Int) = dp by omega] at this
    exact this

/-- Two decimals of one value. -/
theorem val_cross {ds ds' : List Nat} {dp dp' e e' : Int} {N M : Nat} (hM : 0 < M) (h : Val ds dp e N M) (h' : Val ds' dp' e' N M) {x y : Nat} (hxy : (x : Int) - y = e - e') :
    vn ds dp * vd ds' dp' * 2 ^ x = vn ds' dp' * vd ds dp * 2 ^ y := by
  unfold Val at h h'
  refine two_shift (x := e.toNat + (-e').toNat) (y := e'.toNat + (-e).toNat) ?_ (by omega)
  apply Nat.eq_of_mul_eq_mul_right hM
  rw [Nat.pow_add, Nat.pow_add]
  calc vn ds dp * vd ds' dp' * (2 ^ e.toNat * 2 ^ (-e').toNat) * M = vn ds dp * 2 ^ e.toNat * M * (vd ds' dp' * 2 ^ (-e').toNat) := by ac_rfl
    _ = N * (vd ds dp * 2 ^ (-e).toNat) * (vd ds' dp' * 2 ^ (-e').toNat) := by rw [h]
    _ = N * (vd ds' dp' * 2 ^ (-e').toNat) * (vd ds dp * 2 ^ (-e).toNat) := by ac_rfl
    _ = vn ds' dp' * 2 ^ e'.toNat * M * (vd ds dp * 2 ^ (-e).toNat) := by rw [h']
    _ = vn ds' dp' * vd ds dp * (2 ^ e'.toNat * 2 ^ (-e).toNat) * M := by ac_rfl

theorem bits_fin {L : Nat} {ds ds3 : List Nat} {dp3 e e3 : Int} {N M : Nat} (hM : 0 < M) (hv : Val ds 0 e N M) (hlt : vn ds 0 < vd ds 0) (hge : vd ds 0 ≤ vn ds 0 * 2)
    (hv3 : Val ds3 dp3 e3 N M) (h3 : Vd L ds3) (hl3 : 0 < dg ds3 (ds3.length - 1)) (he3 : (e3 = e - 53 ∧ -1074 ≤ e3) ∨ (e3 = -1074 ∧ e ≤ -1021)) :
    rung N M = min ((e3 + 1074).toNat * C + mantOf ds3 dp3) infR ∧ mantOf ds3 dp3 ≤ D ∧ (e3 = -1074 ∨ C ≤ mantOf ds3 dp3) ∧ dp3 ≤ 16 := by
  have hb := vd_pos ds 0
  have hb3 := vd_pos ds3 dp3
  have hhi : vn ds3 dp3 < D * vd ds3 dp3 := by
    have hx := val_cross hM hv hv3 (x := (e - e3).toNat) (y := (e3 - e).toNat) (by omega)
    have h1 : 2 ^ (e - e3).toNat ≤ D := two_pow_le (m := 53) (by omega)
    have h2 : vn ds3 dp3 * vd ds 0 < D * vd ds3 dp3 * vd ds 0 := by
      refine Nat.lt_of_le_of_lt (Nat.le_mul_of_pos_right _ (Nat.two_pow_pos (e3 - e).toNat)) ?_
      rw [← hx]
      calc vn ds 0 * vd ds3 dp3 * 2 ^ (e - e3).toNat ≤ vn ds 0 * vd ds3 dp3 * D := Nat.mul_le_mul_left _ h1
        _ = vn ds 0 * (D * vd ds3 dp3) := by ac_rfl
        _ < vd ds 0 * (D * vd ds3 dp3) := Nat.mul_lt_mul_of_pos_right hlt (Nat.mul_pos (by rw [D_eq]; have := C_pos; omega) hb3)
        _ = D * vd ds3 dp3 * vd ds 0 := Nat.mul_comm _ _
    exact Nat.lt_of_mul_lt_mul_right h2
  have hlo : (e3 + 1074).toNat = 0 ∨ C * vd ds3 dp3 ≤ vn ds3 dp3 := by
    rcases he3 with ⟨h1, h2⟩ | ⟨h1, h2⟩
    · right
      have hx := val_cross hM hv hv3 (x := 53) (y := 0) (by omega)
      rw [Nat.pow_zero, Nat.mul_one] at hx
      have h4 : C * vd ds3 dp3 * vd ds 0 ≤ vn ds3 dp3 * vd ds 0 := by
        rw [← hx]
        calc C * vd ds3 dp3 * vd ds 0 ≤ C * vd ds3 dp3 * (vn ds 0 * 2) := Nat.mul_le_mul_left _ hge
          _ = vn ds 0 * vd ds3 dp3 * (2 * C) := by ac_rfl
          _ = vn ds 0 * vd ds3 dp3 * 2 ^ 53 := rfl
      exact Nat.le_of_mul_le_mul_right h4 hb
    · left; omega
  have hval : vn ds3 dp3 * M * 2 ^ (e3 + 1074).toNat = N * vd ds3 dp3 * S := by
    rw [S_eq]
    exact val_open hv3 (by have := kS_eq; omega)
  have hr := rung_at hM hb3 hval hhi hlo
  rw [mantOf_rne h3 hl3]
  refine ⟨hr, ?_, ?_, ?_⟩
  · have h1 := rne_hi (vn ds3 dp3) (vd ds3 dp3)
    have h2 : vn ds3 dp3 / vd ds3 dp3 < D := (Nat.div_lt_iff_lt_mul hb3).2 hhi
    omega
  · rcases hlo with h | h
    · left; omega
    · right
      exact Nat.le_trans ((Nat.le_div_iff_mul_le hb3).2 h) (rne_lo _ _)
  · rcases Int.lt_or_le 16 dp3 with h | h
    · exfalso
      have h1 := ge_pow h3 16 (dp := dp3) (by omega)
      have h2 : D * vd ds3 dp3 ≤ 10 ^ 16 * vd ds3 dp3 := Nat.mul_le_mul_right _ (by show 2 ^ 53 ≤ 10 ^ 16; decide)
      omega
    · exact h
end Go.Proofs.YtknjgopapbemcaaGreatDoor
