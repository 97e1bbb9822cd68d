/- Ph Pi Pj: joined by merge.py for the claim. -/
import Derived.Test.YtknjgopapbemcaaGreatDoorXGg
import Derived.Test.YtknjgopapbemcaaGreatDoorXPg
import Derived.Test.YtknjgopapbemcaaGreatDoorXDp
/- Plain: floats of one sign are equal where their words are. -/
namespace Go.Proofs.YtknjgopapbemcaaGreatDoor
open Go.RowKit
set_option linter.unusedVariables false
set_option linter.unusedSimpArgs false
theorem vl_strict {a b : Nat} (h : a < b) : vl a < vl b := by
  have hC := C_pos
  by_cases hb : b < C
  · rw [vl_lo hb, vl_lo (by omega)]; exact h
  · have hb1 : C ≤ b := by omega
    rw [vl_hi hb1]
    have hbq : 1 ≤ b / C := by rw [Nat.le_div_iff_mul_le hC]; omega
    by_cases ha : a < C
    · rw [vl_lo ha]
      have h1 : 1 ≤ 2 ^ (b / C - 1) := Nat.two_pow_pos _
      have h2 : (C + b % C) * 1 ≤ (C + b % C) * 2 ^ (b / C - 1) := Nat.mul_le_mul_left _ h1
      omega
    · have ha1 : C ≤ a := by omega
      rw [vl_hi ha1]
      have haq : 1 ≤ a / C := by rw [Nat.le_div_iff_mul_le hC]; omega
      have hq : a / C ≤ b / C := Nat.div_le_div_right (by omega)
      rcases Nat.lt_or_ge (a / C) (b / C) with hlt | hge
      · have h1 : a % C < C := Nat.mod_lt _ hC
        have h2 : (C + a % C) * 2 ^ (a / C - 1) < (C * 2) * 2 ^ (a / C - 1) := Nat.mul_lt_mul_of_pos_right (by omega) (Nat.two_pow_pos _)
        have h3 : C * 2 * 2 ^ (a / C - 1) = C * 2 ^ (a / C) := by rw [Nat.mul_assoc, ← Nat.pow_succ']; congr 2; omega
        have h4 : C * 2 ^ (a / C) ≤ C * 2 ^ (b / C - 1) := Nat.mul_le_mul_left _ (two_pow_le (by omega))
        have h5 : C * 2 ^ (b / C - 1) ≤ (C + b % C) * 2 ^ (b / C - 1) := Nat.mul_le_mul_right _ (by omega)
        omega
      · have he : a / C = b / C := by omega
        rw [he]
        have h1 := Nat.div_add_mod a C
        have h2 := Nat.div_add_mod b C
        rw [he] at h1
        exact Nat.mul_lt_mul_of_pos_right (by omega) (Nat.two_pow_pos _)
theorem vl_inj {a b : Nat} (h : vl a = vl b) : a = b := by
  rcases Nat.lt_trichotomy a b with h1 | h1 | h1
  · have := vl_strict h1; omega
  · exact h1
  · have := vl_strict h1; omega
theorem cmp_self (s : Bool) (x : Nat) : compare (sgv s x) (sgv s x) = .eq := by
  show compareOfLessAndEq _ _ = _
  unfold compareOfLessAndEq
  simp
theorem cmp_eq {s : Bool} {x y : Nat} (h : compare (sgv s x) (sgv s y) = .eq) : x = y := by
  have h1 : compareOfLessAndEq (sgv s x) (sgv s y) = .eq := h
  unfold compareOfLessAndEq at h1
  split at h1
  · cases h1
  · split at h1
    · rename_i h2
      unfold sgv at h2
      cases s
      · simp at h2; omega
      · simp at h2; omega
    · cases h1
theorem read_inf (neg : Bool) : Ieee.double.read (Ieee.double.word neg infR) = .infinity neg := by cases neg <;> decide +kernel
theorem feq_iff (neg : Bool) {a b : Nat} (ha : a ≤ infR) (hb : b ≤ infR) : (FloatKind.f64.format.order (sgnB neg + a) (sgnB neg + b) == some Ordering.eq) = decide (a = b) := by
  have ew : ∀ r, sgnB neg + r = Ieee.double.word neg r := fun r => fw_word neg r
  have key : Ieee.double.order (Ieee.double.word neg a) (Ieee.double.word neg b) = some .eq ↔ a = b := by
    rcases Nat.lt_or_ge a infR with h1 | h1
    · rcases Nat.lt_or_ge b infR with h2 | h2
      · rw [order_words neg neg h1 h2]
        constructor
        · intro h; injection h with h; exact vl_inj (cmp_eq h)
        · rintro rfl; rw [cmp_self]
      · obtain rfl : b = infR := by omega
        unfold Ieee.Format.order
        rw [read_word neg h1, read_inf]
        unfold Ieee.Datum.order
        cases neg <;> simp <;> omega
    · obtain rfl : a = infR := by omega
      rcases Nat.lt_or_ge b infR with h2 | h2
      · unfold Ieee.Format.order
        rw [read_word neg h2, read_inf]
        unfold Ieee.Datum.order
        cases neg <;> simp <;> omega
      · obtain rfl : b = infR := by omega
        unfold Ieee.Format.order
        rw [read_inf]
        unfold Ieee.Datum.order
        cases neg <;> simp
  show (Ieee.double.order (sgnB neg + a) (sgnB neg + b) == some Ordering.eq) = decide (a = b)
  rw [ew, ew, Bool.eq_iff_iff, beq_iff_eq, key, decide_eq_true_iff]
end Go.Proofs.YtknjgopapbemcaaGreatDoor
/- Plain: what Go's own reader answers, by the rungs that it comes to. -/
namespace Go.Proofs.YtknjgopapbemcaaGreatDoor
open Go.RowKit
set_option linter.unusedVariables false
set_option linter.unusedSimpArgs false
/-- What is known when a text is read so far. -/
structure AtE (l : List Nat) (x : Nat) (n : Int) (bad : Bool) : Prop where
  yes : n = (l.length : Int) → pf l = if bad then none else some x
  no : n ≠ (l.length : Int) → pf l = none
def errV (k : Int) : Value := .iface 115 (.int .i64 k)
/-- What Go's atof64 answers. -/
def AtOut (l : List Nat) (e : Ending) : Prop :=
  ∃ (x : Nat) (n : Int) (er : Value) (bad : Bool), e = .returned (.tuple #[.float .f64 x, .int .i64 n, er]) ∧ AtE l x n bad ∧ (bad = false → er = .nilIface) ∧ (bad = true → er = errV 1 ∨ er = errV 2)
theorem at_good {l : List Nat} {x : Nat} {n : Int} (h : AtE l x n false) : AtOut l (.returned (.tuple #[.float .f64 x, .int .i64 n, .nilIface])) := ⟨x, n, _, false, rfl, h, fun _ => rfl, (fun h => by cases h)⟩
theorem at_range {l : List Nat} {x : Nat} {n : Int} (h : AtE l x n true) : AtOut l (.returned (.tuple #[.float .f64 x, .int .i64 n, .iface 115 (.int .i64 1)])) := ⟨x, n, _, true, rfl, h, (fun h => by cases h), fun _ => .inl rfl⟩
theorem at_syntax {l : List Nat} {x : Nat} {n : Int} (h : AtE l x n true) : AtOut l (.returned (.tuple #[.float .f64 x, .int .i64 n, .iface 115 (.int .i64 2)])) := ⟨x, n, _, true, rfl, h, (fun h => by cases h), fun _ => .inr rfl⟩
theorem at_erv {l : List Nat} {x : Nat} {n : Int} {bad : Bool} (h : AtE l x n bad) : AtOut l (.returned (.tuple #[.float .f64 x, .int .i64 n, if bad then .iface 115 (.int .i64 1) else .nilIface])) := by
  cases bad
  · exact at_good h
  · exact at_range h
structure NoSp (l : List Nat) : Prop where
  a : fNan l = false
  b : fInf (noSgn l) = false
  c : fInfy (noSgn l) = false
theorem pf_nowhole {l : List Nat} (h : NoSp l) (hw : whole l = none) : pf l = none := by rw [pf_whole h.a h.b h.c, hw]
theorem at_none {l : List Nat} {x : Nat} {n : Int} (h : NoSp l) (hw : whole l = none) : AtE l x n true := ⟨fun _ => pf_nowhole h hw, fun _ => pf_nowhole h hw⟩
/-- A number that was read. -/
theorem at_num {l : List Nat} {m : Nat} {x : Int} {neg tr hex : Bool} {i : Nat} {n : Num} (h : NoSp l) (ho : RfOk l m x neg tr hex i n) {y : Nat} {bad : Bool} (hb : bad = decide (mag n = infR)) (hy : bad = false → y = sgnB neg + mag n) : AtE l y (i : Int) bad := by
  constructor
  · intro hi
    have hi' : i = l.length := by omega
    have hw : whole l = some (isNeg l, n) := by
      unfold whole
      rw [ho.un, hi', List.drop_length]
      simp only
      rw [if_neg]
      rintro ⟨h1, h2⟩
      rw [ho.us hi' h1] at h2; cases h2
    rw [pf_whole h.a h.b h.c, hw]
    simp only
    rw [hb]
    by_cases hm : mag n = infR
    · rw [if_pos hm, decide_eq_true hm]; rfl
    · rw [if_neg hm, decide_eq_false hm]
      have := hy (by rw [hb, decide_eq_false hm])
      rw [this, ho.en]; rfl
  · intro hi
    apply pf_nowhole h
    unfold whole
    rw [ho.un]
    have hlt : i < l.length := by have := ho.il; omega
    rw [drop_bt hlt]
/-- A hexadecimal one. -/
theorem at_hex {l : List Nat} {m : Nat} {x : Int} {neg tr : Bool} {i : Nat} {n : Num} (ho : RfOk l m x neg tr true i n) : mag n = rg (if tr then m ||| 1 else m) x ∧ (tr = true → 18014398509481984 ≤ m) ∧ -200000 ≤ x ∧ x ≤ 200000 ∧ m < 18446744073709551616 := by
  have hh : n.hex = true := ho.eh.symm
  have hmm : m = hv (n.ds.take 16) := by have := ho.em; rw [hh] at this; exact this
  have ht : tr = nz (n.ds.drop 16) := ho.et
  have hA : (if tr then m ||| 1 else m) = hm n.ds := by
    unfold hm
    rw [ht, hmm]
  have hmag : mag n = rg (hm n.ds) (hx n) := by
    unfold mag rg; rw [if_pos hh]
  have hbig : 16 ≤ n.ds.length → 1152921504606846976 ≤ m := fun h => by rw [hmm]; exact (hv_take16 ho.d16 h).1
  have hl := ho.len
  have hf := ho.fr
  have he := ho.eb
  have hm64 : m < 18446744073709551616 := by
    have h1 := hv_hi (l := n.ds.take 16) (fun d hd => ho.d16.lt d (List.mem_of_mem_take hd))
    have h2 : 16 ^ (n.ds.take 16).length ≤ 16 ^ 16 := Nat.pow_le_pow_right (by omega) (by rw [List.length_take]; omega)
    rw [← hmm] at h1
    omega
  refine ⟨?_, ?_, ?_, ?_, hm64⟩
  · rw [hA, hmag]
    have hx' := ho.ex
    by_cases hm0 : m = 0
    · rw [if_pos hm0] at hx'
      have hnil : n.ds = [] := by
        rcases ho.d16.first with h1 | h1
        · exact h1
        · exfalso
          cases hds : n.ds with
          | nil => rw [hds] at h1; simp [dg] at h1
          | cons d r =>
            rw [hds] at h1 hmm
            rw [List.take_succ_cons] at hmm
            have h3 := hv_lo (d := d) (l := r.take 15) h1
            have : 0 < 16 ^ (r.take 15).length := Nat.pow_pos (by omega)
            omega
      have hz : hm n.ds = 0 := by rw [hnil]; rfl
      rw [hz]; unfold rg; rw [Nat.zero_mul, Nat.zero_mul, rung_zero, rung_zero]
    · rw [if_neg hm0, if_pos rfl] at hx'
      rw [hx']
  · intro htr
    rcases Nat.lt_or_ge n.ds.length 16 with h1 | h1
    · rw [ht, List.drop_of_length_le (by omega)] at htr; cases htr
    · have := hbig h1; omega
  · have hx' := ho.ex
    split at hx'
    · omega
    · rw [if_pos rfl] at hx'; rw [hx']; unfold hx; omega
  · have hx' := ho.ex
    split at hx'
    · omega
    · rw [if_pos rfl] at hx'; rw [hx']; unfold hx; omega
/-- A decimal one. -/
structure DecOk (n : Num) (m : Nat) (x : Int) (tr : Bool) (N M : Nat) : Prop where
  mag : mag n = rung N M
  zero : m = 0 → Go.Proofs.YtknjgopapbemcaaGreatDoor.mag n = 0
  val : 0 < m → DecV m x N M tr
  m19 : m < 10 ^ 19
  xb : -110000 ≤ x ∧ x ≤ 110000
  N : N = nN (dn n.ds) (n.e - n.frac)
  M : M = nD (n.e - n.frac)
theorem dn_lo10 {d : Nat} {l : List Nat} (h : 0 < d) : 10 ^ l.length ≤ dn (d :: l) := by
  have := dn_append [d] l
  rw [List.singleton_append] at this
  rw [this]
  have e : dn [d] = d := by simp [dn]
  rw [e]
  have : 1 * 10 ^ l.length ≤ d * 10 ^ l.length := Nat.mul_le_mul_right _ h
  omega
theorem decOk {l : List Nat} {m : Nat} {x : Int} {neg tr : Bool} {i : Nat} {n : Num} (ho : RfOk l m x neg tr false i n) : ∃ N M, DecOk n m x tr N M := by
  have hh : n.hex = false := ho.eh.symm
  have h10 : Dg 10 n.ds := ho.d10 rfl
  have hm : m = dn (n.ds.take 19) := by have := ho.em; rw [hh] at this; exact this
  have ht : tr = nz (n.ds.drop 19) := ho.et
  have hl := ho.len
  have hf := ho.fr
  have he := ho.eb
  have hmag : mag n = rung (nN (dn n.ds) (n.e - n.frac)) (nD (n.e - n.frac)) := by
    unfold mag nN nD; rw [if_neg (by rw [hh]; simp)]
  have hm19 : m < 10 ^ 19 := by
    have h1 := dn_hi10 (l := n.ds.take 19) (fun d hd => h10.lt d (List.mem_of_mem_take hd))
    have h2 : 10 ^ (n.ds.take 19).length ≤ 10 ^ 19 := Nat.pow_le_pow_right (by omega) (by rw [List.length_take]; omega)
    rw [← hm] at h1
    omega
  refine ⟨_, _, hmag, ?_, ?_, hm19, ?_, rfl, rfl⟩
  · intro hm0
    have hnil : n.ds = [] := by
      rcases h10.first with h1 | h1
      · exact h1
      · exfalso
        cases hds : n.ds with
        | nil => rw [hds] at h1; simp [dg] at h1
        | cons d r =>
          rw [hds] at h1 hm
          rw [List.take_succ_cons] at hm
          have h3 := dn_lo10 (d := d) (l := r.take 18) h1
          have : 0 < 10 ^ (r.take 18).length := Nat.pow_pos (by omega)
          omega
    rw [hmag, hnil]
    have : nN (dn []) (n.e - n.frac) = 0 := by unfold nN; show 0 * _ = 0; rw [Nat.zero_mul]
    rw [this, rung_zero]
  · intro hm0
    have hx' := ho.ex
    rw [if_neg (by omega), if_neg (by simp)] at hx'
    rw [hm, ht]
    exact decv h10 _ _ (by rw [hx']; omega)
  · have hx' := ho.ex
    split at hx'
    · omega
    · rw [if_neg (by simp)] at hx'; omega
end Go.Proofs.YtknjgopapbemcaaGreatDoor
/- Plain: the grammar on the front part of a text; what the slow road starts from. -/
namespace Go.Proofs.YtknjgopapbemcaaGreatDoor
open Go.RowKit
set_option linter.unusedVariables false
set_option linter.unusedSimpArgs false
theorem scan_split (hex : Bool) : ∀ (l : List Nat) (st : St), ∃ c, l = c ++ (scan hex st l).2 ∧ ∀ x, (x = [] ∨ ∃ m x' rr, x = m :: x' ∧ (scan hex st l).2 = m :: rr) → scan hex st (c ++ x) = ((scan hex st l).1, x) := by
  intro l
  induction l with
  | nil =>
    intro st
    refine ⟨[], rfl, fun x hx => ?_⟩
    rcases hx with rfl | ⟨m, x', rr, rfl, h⟩
    · rfl
    · rw [scan] at h; cases h
  | cons a r ih =>
    intro st
    cases hs : stp hex st a with
    | none =>
      rw [scan_none hs]
      refine ⟨[], rfl, fun x hx => ?_⟩
      rcases hx with rfl | ⟨m, x', rr, rfl, h⟩
      · rfl
      · injection h with h1 h2
        rw [List.nil_append, ← h1, scan_none hs]
    | some st' =>
      rw [scan_some hs]
      obtain ⟨c, h1, h2⟩ := ih st'
      refine ⟨a :: c, by rw [List.cons_append, ← h1], fun x hx => ?_⟩
      rw [List.cons_append, scan_some hs]
      exact h2 x hx
theorem scan_len (hex : Bool) : ∀ (l : List Nat) (st : St), (scan hex st l).1.ds.length ≤ st.ds.length + l.length := by
  intro l
  induction l with
  | nil => intro st; rw [scan]; exact Nat.le_refl _
  | cons a r ih =>
    intro st
    cases hs : stp hex st a with
    | none => rw [scan_none hs]; show st.ds.length ≤ _; omega
    | some st' =>
      rw [scan_some hs, List.length_cons]
      have h1 := ih st'
      have h2 : st'.ds.length ≤ st.ds.length + 1 := by
        unfold stp at hs
        split at hs
        · injection hs with hs; rw [← hs]; show st.ds.length ≤ _; omega
        · split at hs
          · split at hs
            · cases hs
            · injection hs with hs; rw [← hs]; show st.ds.length ≤ _; omega
          · split at hs
            · cases hs
            · rename_i d _
              injection hs with hs; rw [← hs]; exact (psh_len st.ds d).1
      omega
theorem eg_split : ∀ (l : List Nat) (e : Nat) (u : Bool), ∃ c, l = c ++ (eg e u l).2.2 ∧ eg e u c = ((eg e u l).1, (eg e u l).2.1, []) := by
  intro l
  induction l with
  | nil => intro e u; exact ⟨[], rfl, rfl⟩
  | cons a r ih =>
    intro e u
    by_cases h95 : a = 95
    · obtain ⟨c, h1, h2⟩ := ih e true
      have he : ∀ x, eg e u (a :: x) = eg e true x := fun x => by rw [eg, if_pos h95]
      rw [he]
      exact ⟨a :: c, by rw [List.cons_append, ← h1], by rw [he]; exact h2⟩
    · by_cases hd : 48 ≤ a ∧ a ≤ 57
      · obtain ⟨c, h1, h2⟩ := ih (if e < 10000 then e * 10 + (a - 48) else e) u
        have he : ∀ x, eg e u (a :: x) = eg (if e < 10000 then e * 10 + (a - 48) else e) u x := fun x => by rw [eg, if_neg h95, if_pos hd]
        rw [he]
        exact ⟨a :: c, by rw [List.cons_append, ← h1], by rw [he]; exact h2⟩
      · have he : eg e u (a :: r) = (e, u, a :: r) := by rw [eg, if_neg h95, if_neg hd]
        rw [he]
        exact ⟨[], rfl, rfl⟩
theorem eg_first {l c r : List Nat} {e E : Nat} {u U : Bool} (hd : 48 ≤ bt l 0 ∧ bt l 0 ≤ 57) (h : eg e u l = (E, U, r)) (hc : l = c ++ r) : c ≠ [] := by
  rintro rfl
  rw [List.nil_append] at hc
  cases l with
  | nil => have : bt [] 0 = 0 := rfl; omega
  | cons a l =>
    have ha : bt (a :: l) 0 = a := rfl
    rw [ha] at hd
    rw [eg, if_neg (by omega), if_pos hd] at h
    obtain ⟨c', h1, _⟩ := eg_split l (if e < 10000 then e * 10 + (a - 48) else e) u
    rw [h] at h1
    have h2 : l = c' ++ r := h1
    have h3 := congrArg List.length h2
    have h4 := congrArg List.length hc
    rw [List.length_append] at h3
    rw [List.length_cons] at h4
    omega
theorem bt_app0 {c r : List Nat} (h : c ≠ []) : bt (c ++ r) 0 = bt c 0 := by
  cases c with
  | nil => exact absurd rfl h
  | cons a c => rfl
theorem ex_pre {l r : List Nat} {e : Int} {u : Bool} (h : ex l = some (e, u, r)) : ∃ c, l = c ++ r ∧ ex c = some (e, u, []) := by
  unfold ex at h
  split at h
  · rename_i hd
    obtain ⟨c1, h1, h2⟩ := eg_split (exHd l) 0 false
    injection h with h
    injection h with h3 h4
    injection h4 with h4 h5
    have heg : eg 0 false (exHd l) = ((eg 0 false (exHd l)).1, u, r) := by rw [← h4, ← h5]
    rw [h5] at h1
    have hc1 := eg_first hd heg h1
    rw [heg] at h2
    have h2' : eg 0 false c1 = ((eg 0 false (exHd l)).1, u, []) := h2
    have hb1 : bt c1 0 = bt (exHd l) 0 := by rw [h1, bt_app0 hc1]
    by_cases hs : bt l 0 = 43 ∨ bt l 0 = 45
    · have he : exHd l = l.drop 1 := by unfold exHd; rw [if_pos hs]
      cases l with
      | nil => have : bt [] 0 = 0 := rfl; omega
      | cons a l =>
        rw [he] at h1
        have h1' : l = c1 ++ r := h1
        refine ⟨a :: c1, by rw [List.cons_append, ← h1'], ?_⟩
        have hh : exHd (a :: c1) = c1 := by
          unfold exHd
          rw [if_pos (show bt (a :: c1) 0 = 43 ∨ bt (a :: c1) 0 = 45 from hs)]; rfl
        unfold ex
        rw [hh, if_pos (by rw [hb1]; exact hd), h2', ← h3]; rfl
    · have he : exHd l = l := by unfold exHd; rw [if_neg hs]
      rw [he] at h1 hb1
      refine ⟨c1, h1, ?_⟩
      have hh : exHd c1 = c1 := by unfold exHd; rw [if_neg (by rw [hb1]; exact hs)]
      unfold ex
      rw [hh, if_pos (by rw [hb1]; rw [he] at hd; exact hd), h2', ← h3, hb1]
  · cases h
theorem body_pre {t r : List Nat} {n : Num} (h : body false t = some (n, r)) : ∃ c, t = c ++ r ∧ c ≠ [] ∧ body false c = some (n, []) := by
  obtain ⟨c0, h1, h2⟩ := scan_split false t st0
  unfold body at h
  generalize hS : scan false st0 t = S at *
  obtain ⟨st, r0⟩ := S
  simp only at h h1 h2
  split at h
  · cases h
  · rename_i hdg
    split at h
    · rename_i hm
      have hne : r0 ≠ [] := by rintro rfl; exact absurd hm (by decide)
      obtain ⟨m, rr, rfl⟩ := List.exists_cons_of_ne_nil hne
      rw [List.drop_succ_cons, List.drop_zero] at h
      cases hex : ex rr with
      | none => rw [hex] at h; cases h
      | some p =>
        obtain ⟨e, u, r1⟩ := p
        rw [hex] at h
        injection h with h
        injection h with h3 h4
        subst h4
        obtain ⟨c1, h5, h6⟩ := ex_pre hex
        refine ⟨c0 ++ m :: c1, by rw [h1, h5, List.append_assoc, List.cons_append], by simp, ?_⟩
        have h7 := h2 (m :: c1) (.inr ⟨m, c1, rr, rfl, rfl⟩)
        have hm' : lw (bt (m :: c1) 0) = mark false := hm
        unfold body
        rw [h7]
        simp only [List.drop_succ_cons, List.drop_zero]
        rw [if_neg hdg, if_pos hm', h6]
        simp only
        rw [← h3]
    · rename_i hm
      split at h
      · cases h
      · injection h with h
        injection h with h3 h4
        subst h4
        have h7 := h2 [] (.inl rfl)
        rw [List.append_nil] at h7
        refine ⟨c0, h1, ?_, ?_⟩
        · rintro rfl
          rw [scan] at h7
          injection h7 with h7 _
          rw [← h7] at hdg
          exact hdg rfl
        · unfold body
          rw [h7]
          simp only
          rw [if_neg hdg, if_neg (by decide), if_neg (by simp), ← h3]
theorem body_len {t r : List Nat} {n : Num} (h : body false t = some (n, r)) : n.ds.length ≤ t.length := by
  have h0 := scan_len false t st0
  have hz : st0.ds.length = 0 := rfl
  rw [hz, Nat.zero_add] at h0
  unfold body at h
  split at h
  · cases h
  · split at h
    · split at h
      · cases h
      · injection h with h
        injection h with h3 _
        rw [← h3]; exact h0
    · split at h
      · cases h
      · injection h with h
        injection h with h3 _
        rw [← h3]; exact h0
theorem uns_body {t r : List Nat} {n : Num} (h : uns t = some (n, r)) (hx : n.hex = false) : isHex t = false ∧ body false t = some (n, r) := by
  unfold uns at h
  split at h
  · exfalso
    unfold body at h
    split at h
    · cases h
    · split at h
      · split at h
        · cases h
        · injection h with h
          injection h with h3 _
          rw [← h3] at hx; cases hx
      · cases h
  · rename_i hi
    exact ⟨by simpa using hi, h⟩
theorem uns_pre {t r : List Nat} {n : Num} (h : uns t = some (n, r)) (hx : n.hex = false) : ∃ c, t = c ++ r ∧ c ≠ [] ∧ uns c = some (n, []) := by
  obtain ⟨hi, hb⟩ := uns_body h hx
  obtain ⟨c, h1, h2, h3⟩ := body_pre hb
  refine ⟨c, h1, h2, ?_⟩
  unfold uns
  rw [if_neg, h3]
  intro hc
  have : isHex t = true := by
    unfold isHex at hc ⊢
    rw [h1]
    match c, hc with
    | a :: b :: d :: e, hc =>
      have hc' := of_decide_eq_true hc
      refine decide_eq_true ⟨?_, hc'.2⟩
      rw [List.length_append, List.length_cons, List.length_cons, List.length_cons]; omega
    | [], hc => simp at hc
    | [a], hc => simp at hc
    | [a, b], hc => simp at hc
  rw [this] at hi; cases hi
/-- The front part of a text reads alike. -/
theorem uns_take {l : List Nat} {i : Nat} {n : Num} (h : uns (noSgn l) = some (n, l.drop i)) (hx : n.hex = false) (hi : i ≤ l.length) : uns (noSgn (l.take i)) = some (n, []) ∧ isNeg (l.take i) = isNeg l ∧ n.ds.length ≤ l.length := by
  obtain ⟨c, h1, h2, h3⟩ := uns_pre h hx
  have hlen := body_len (uns_body h hx).2
  have hcl : 0 < c.length := List.length_pos_iff.2 h2
  have hl := congrArg List.length h1
  rw [List.length_append, List.length_drop] at hl
  cases l with
  | nil => simp [noSgn] at hl; omega
  | cons a l =>
    obtain ⟨j, rfl⟩ : ∃ j, i = j + 1 := ⟨i - 1, by
      unfold noSgn at hl; split at hl
      · rw [List.length_drop] at hl; omega
      · omega⟩
    have hb0 : ∀ x, bt (a :: x) 0 = a := fun _ => rfl
    have hng : isNeg ((a :: l).take (j + 1)) = isNeg (a :: l) := rfl
    refine ⟨?_, hng, ?_⟩
    · rw [List.take_succ_cons]
      rw [List.drop_succ_cons] at h1
      by_cases hs : hasSgn (a :: l) = true
      · have hs2 : hasSgn (a :: l.take j) = true := hs
        have e1 : noSgn (a :: l) = l := by unfold noSgn; rw [if_pos hs]; rfl
        have e2 : noSgn (a :: l.take j) = l.take j := by unfold noSgn; rw [if_pos hs2]; rfl
        rw [e1] at h1
        rw [e2]
        have : l.take j = c := by
          have h4 := List.take_append_drop j l
          rw [h1] at h4
          have : l.take j ++ l.drop j = c ++ l.drop j := by rw [List.take_append_drop]; exact h1
          exact List.append_cancel_right this
        rw [this]; exact h3
      · have hs2 : ¬ hasSgn (a :: l.take j) = true := hs
        have e1 : noSgn (a :: l) = a :: l := by unfold noSgn; rw [if_neg hs]
        have e2 : noSgn (a :: l.take j) = a :: l.take j := by unfold noSgn; rw [if_neg hs2]
        rw [e1] at h1
        rw [e2]
        have : a :: l.take j = c := by
          have : (a :: l.take j) ++ l.drop j = c ++ l.drop j := by rw [List.cons_append, List.take_append_drop]; exact h1
          exact List.append_cancel_right this
        rw [this]; exact h3
    · have : (noSgn (a :: l)).length ≤ (a :: l).length := by
        unfold noSgn; split
        · rw [List.length_drop]; omega
        · exact Nat.le_refl _
      omega
theorem zero173 : Tryz.zeroCells173 = Array.replicate 800 (.int .u8 0) ++ #[.int .i64 0, .int .i64 0, .bool false, .bool false] := by kernel_rfl
theorem rw_zero (w : World) : Rw (w.alloc (.cells Tryz.zeroCells173 173)) w.heap.size (fun _ => 0) 0 0 false false := by
  refine ⟨⟨_, heap_alloc_new _ _, ?_⟩⟩
  rw [zero173]
  refine ⟨by simp, fun i hi => ?_, by simp, by simp, by simp, by simp⟩
  rw [Array.getElem?_append_left (by simpa using hi)]
  simp [hi]
set_option exponentiation.threshold 4000 in
/-- The slow road's premises. -/
theorem slow_ok {l : List Nat} {m : Nat} {x : Int} {neg : Bool} {i : Nat} {n : Num} {N M : Nat} (ho : RfOk l m x neg true false i n) (hl : l.length ≤ 400) (hk : DecOk n m x true N M) (hm0 : 0 < m) (hx : -345 ≤ x) (hfin : rung (nN m x) (nD x) ≠ infR) (hlen : n.ds.length ≤ l.length) : SlowOk N M ∧ 0 < M := by
  have h10 : Dg 10 n.ds := ho.d10 rfl
  have hh : n.hex = false := ho.eh.symm
  have hmm : m = dn (n.ds.take 19) := by have := ho.em; rw [hh] at this; exact this
  have ht : true = nz (n.ds.drop 19) := ho.et
  have hl19 : 19 < n.ds.length := by
    apply Nat.lt_of_not_le
    intro h
    rw [List.drop_of_length_le h] at ht; cases ht
  have hm18 : 10 ^ 18 ≤ m := by
    have h1 := h10.first
    cases hds : n.ds with
    | nil => rw [hds] at hl19; simp at hl19
    | cons d r =>
      rw [hds] at h1 hmm hl19
      rcases h1 with h1 | h1
      · cases h1
      · rw [List.take_succ_cons] at hmm
        rw [List.length_cons] at hl19
        have h3 := dn_lo10 (d := d) (l := r.take 18) h1
        rw [List.length_take, Nat.min_eq_left (by omega), ← hmm] at h3
        exact h3
  have hx' := ho.ex
  rw [if_neg (by omega), if_neg (by simp), Nat.min_eq_left (by omega)] at hx'
  obtain ⟨q, hq⟩ : ∃ q : Int, q = n.e - n.frac := ⟨_, rfl⟩
  have hN : N = nN (dn n.ds) q := by rw [hq]; exact hk.N
  have hM : M = nD q := by rw [hq]; exact hk.M
  have hV := hk.val hm0
  have hM740 : M ≤ 10 ^ 740 := by
    rw [hM]; unfold nD
    exact Nat.pow_le_pow_right (by omega) (by omega)
  have hMN : M ≤ N → M ≤ 10 ^ 400 := by
    rw [hM, hN]; intro h
    exact M_le_N h10 (by omega) h
  exact ⟨hV.slow hm18 hx hfin hM740 hMN, hV.M0⟩
set_option exponentiation.threshold 4000 in
/-- The decimal that floatBits starts with. -/
theorem slow_dst {l : List Nat} {m : Nat} {x : Int} {neg : Bool} {i : Nat} {n : Num} {N M : Nat} (ho : RfOk l m x neg true false i n) (hl : l.length ≤ 400) (hk : DecOk n m x true N M) (hm0 : 0 < m) (hx : -345 ≤ x) (hfin : rung (nN m x) (nD x) ≠ infR)
    {w0 w : World} {g : Nat} (hs : SetP g n neg w) (hlen : n.ds.length ≤ l.length) (hb : Below w0.heap.size w0 w) (hg : w0.heap.size ≤ g) : SlowOk N M ∧ 0 < M ∧ ∃ dp, Dst (10 ^ 799) w0 g neg N M w 0 n.ds dp 0 false ∧ -330 ≤ dp ∧ dp ≤ 310 := by
  have h10 : Dg 10 n.ds := ho.d10 rfl
  have hh : n.hex = false := ho.eh.symm
  have hmm : m = dn (n.ds.take 19) := by have := ho.em; rw [hh] at this; exact this
  have ht : true = nz (n.ds.drop 19) := ho.et
  have hl19 : 19 < n.ds.length := by
    apply Nat.lt_of_not_le
    intro h
    rw [List.drop_of_length_le h] at ht; cases ht
  have hm18 : 10 ^ 18 ≤ m := by
    have h1 := h10.first
    cases hds : n.ds with
    | nil => rw [hds] at hl19; simp at hl19
    | cons d r =>
      rw [hds] at h1 hmm hl19
      rcases h1 with h1 | h1
      · cases h1
      · rw [List.take_succ_cons] at hmm
        rw [List.length_cons] at hl19
        have h3 := dn_lo10 (d := d) (l := r.take 18) h1
        rw [List.length_take, Nat.min_eq_left (by omega), ← hmm] at h3
        exact h3
  have hx' := ho.ex
  rw [if_neg (by omega), if_neg (by simp), Nat.min_eq_left (by omega)] at hx'
  obtain ⟨q, hq⟩ : ∃ q : Int, q = n.e - n.frac := ⟨_, rfl⟩
  have hN : N = nN (dn n.ds) q := by rw [hq]; exact hk.N
  have hM : M = nD q := by rw [hq]; exact hk.M
  have hV := hk.val hm0
  have hM740 : M ≤ 10 ^ 740 := by
    rw [hM]; unfold nD
    exact Nat.pow_le_pow_right (by omega) (by omega)
  have hMN : M ≤ N → M ≤ 10 ^ 400 := by
    rw [hM, hN]; intro h
    exact M_le_N h10 (by omega) h
  have hS := hV.slow hm18 hx hfin hM740 hMN
  have hVd : Vd 800 n.ds := h10.vd (by omega) (by omega)
  obtain ⟨f, hr, hdg⟩ := hs.ex
  obtain ⟨dp, hdp⟩ : ∃ dp : Int, dp = (n.ds.length : Int) - n.frac + n.e := ⟨_, rfl⟩
  rw [← hdp] at hr
  have hdq : dp = q + n.ds.length := by omega
  obtain ⟨e1, e2⟩ := vn_nN n.ds dp q hdq
  refine ⟨hS, hV.M0, dp, ⟨⟨⟨f, hr, hdg⟩, by omega, hVd.dig⟩, hVd, .inl rfl, ?_, hb, hg⟩, by omega, ?_⟩
  · rw [e1, e2, ← hN, ← hM]; exact ap_start _ _ _
  · exact dp_le hVd hdq (by rw [← hN, ← hM]; exact hS.gap.n)
end Go.Proofs.YtknjgopapbemcaaGreatDoor
