/- Pa Pb Pc Pd Pe: joined by merge.py for the claim. -/
import Derived.Test.YtknjgopapbemcaaGreatDoorXMaMf
/- The grammar of numbers, in plain Lean: what both readers take, and what they make of it. -/
namespace Go.Proofs.YtknjgopapbemcaaGreatDoor

/-- The bytes of a text. -/
def tx (s : ByteArray) : List Nat := s.data.toList.map UInt8.toNat
theorem tx_length (s : ByteArray) : (tx s).length = s.size := by
  unfold tx; rw [List.length_map, Array.length_toList]; rfl
/-- Byte k; 0 behind the end. -/
def bt (l : List Nat) (k : Nat) : Nat := l.getD k 0
theorem bt_get (s : ByteArray) (k : Nat) (h : k < s.size) : (s[k]'h).toNat = bt (tx s) k := by
  unfold bt tx
  have h' : k < s.data.toList.length := by rw [Array.length_toList]; exact h
  rw [List.getD_eq_getElem?_getD, List.getElem?_map, List.getElem?_eq_getElem h']
  rfl
theorem tx_lt (s : ByteArray) (k : Nat) : bt (tx s) k < 256 := by
  by_cases h : k < s.size
  · rw [← bt_get s k h]; exact UInt8.toNat_lt _
  · unfold bt; rw [List.getD_eq_getElem?_getD, List.getElem?_eq_none (by rw [tx_length]; omega)]; simp
theorem drop_bt {l : List Nat} {k : Nat} (h : k < l.length) : l.drop k = bt l k :: l.drop (k + 1) := by
  rw [List.drop_eq_getElem_cons h]
  unfold bt; rw [List.getD_eq_getElem?_getD, List.getElem?_eq_getElem h]; rfl
theorem tx_extract (s : ByteArray) (a b : Nat) : tx (s.extract a b) = ((tx s).take b).drop a := by
  unfold tx
  rw [ByteArray.data_extract, Array.toList_extract, List.extract_eq_take_drop, List.map_take, List.map_drop, List.drop_take]

/-- Lower case, as the readers have it. -/
def lw (c : Nat) : Nat := c ||| 32

structure St where
  ds : List Nat
  frac : Nat
  dot : Bool
  dig : Bool
  und : Bool
def st0 : St := ⟨[], 0, false, false, false⟩

/-- A digit's value. -/
def dval (hex : Bool) (c : Nat) : Option Nat :=
  if 48 ≤ c ∧ c ≤ 57 then some (c - 48) else if hex = true ∧ 97 ≤ lw c ∧ lw c ≤ 102 then some (lw c - 87) else none
/-- Digits without zeros ahead. -/
def psh (ds : List Nat) (d : Nat) : List Nat := if ds = [] ∧ d = 0 then [] else ds ++ [d]
def stp (hex : Bool) (st : St) (c : Nat) : Option St :=
  if c = 95 then some { st with und := true }
  else if c = 46 then (if st.dot then none else some { st with dot := true })
  else match dval hex c with
    | none => none
    | some d => some { st with dig := true, ds := psh st.ds d, frac := if st.dot then st.frac + 1 else st.frac }
def scan (hex : Bool) : St → List Nat → St × List Nat
  | st, [] => (st, [])
  | st, c :: r => match stp hex st c with
    | none => (st, c :: r)
    | some st' => scan hex st' r

/-- The digits of an exponent. -/
def eg : Nat → Bool → List Nat → Nat × Bool × List Nat
  | e, u, [] => (e, u, [])
  | e, u, c :: r =>
    if c = 95 then eg e true r
    else if 48 ≤ c ∧ c ≤ 57 then eg (if e < 10000 then e * 10 + (c - 48) else e) u r
    else (e, u, c :: r)
def exHd (l : List Nat) : List Nat := if bt l 0 = 43 ∨ bt l 0 = 45 then l.drop 1 else l
def ex (l : List Nat) : Option (Int × Bool × List Nat) :=
  if 48 ≤ bt (exHd l) 0 ∧ bt (exHd l) 0 ≤ 57 then
    some (if bt l 0 = 45 then -((eg 0 false (exHd l)).1 : Int) else ((eg 0 false (exHd l)).1 : Int), (eg 0 false (exHd l)).2.1, (eg 0 false (exHd l)).2.2)
  else none

structure Num where
  hex : Bool
  ds : List Nat
  frac : Nat
  e : Int
  und : Bool
def mark (hex : Bool) : Nat := if hex then 112 else 101
/-- A mantissa and an exponent, and what is left. -/
def body (hex : Bool) (l : List Nat) : Option (Num × List Nat) :=
  if (scan hex st0 l).1.dig = false then none
  else if lw (bt (scan hex st0 l).2 0) = mark hex then
    match ex ((scan hex st0 l).2.drop 1) with
    | none => none
    | some (e, u, r) => some (⟨hex, (scan hex st0 l).1.ds, (scan hex st0 l).1.frac, e, (scan hex st0 l).1.und || u⟩, r)
  else if hex then none
  else some (⟨false, (scan hex st0 l).1.ds, (scan hex st0 l).1.frac, 0, (scan hex st0 l).1.und⟩, (scan hex st0 l).2)
def isHex (l : List Nat) : Bool := decide (2 < l.length ∧ bt l 0 = 48 ∧ lw (bt l 1) = 120)
/-- A number without a sign, and what is left. -/
def uns (l : List Nat) : Option (Num × List Nat) := if isHex l then body true (l.drop 2) else body false l
def isNeg (l : List Nat) : Bool := decide (bt l 0 = 45)
def hasSgn (l : List Nat) : Bool := decide (bt l 0 = 43 ∨ bt l 0 = 45)
/-- Without its sign. -/
def noSgn (l : List Nat) : List Nat := if hasSgn l then l.drop 1 else l

/-- Underscores: between digits, or behind a prefix, alone. -/
def uGo (hex : Bool) : Nat → List Nat → Bool
  | last, [] => last != 95
  | last, c :: r =>
    if (48 ≤ c ∧ c ≤ 57) ∨ (hex = true ∧ 97 ≤ lw c ∧ lw c ≤ 102) then uGo hex 48 r
    else if c = 95 then (if last = 48 then uGo hex 95 r else false)
    else if last = 95 then false
    else uGo hex 33 r
def uPre (l : List Nat) : Bool := decide (2 ≤ l.length ∧ bt l 0 = 48 ∧ (lw (bt l 1) = 98 ∨ lw (bt l 1) = 111 ∨ lw (bt l 1) = 120))
def uOK (l : List Nat) : Bool :=
  if uPre (noSgn l) then uGo (decide (lw (bt (noSgn l) 1) = 120)) 48 ((noSgn l).drop 2) else uGo false 94 (noSgn l)

/-- A whole number, with its sign. -/
def whole (l : List Nat) : Option (Bool × Num) :=
  match uns (noSgn l) with
  | some (n, []) => if n.und = true ∧ uOK l = false then none else some (isNeg l, n)
  | _ => none

/-- The mantissa of hexadecimal digits: 16 of them, then whether one more is not 0. -/
def hv (l : List Nat) : Nat := l.foldl (fun a d => 16 * a + d) 0
def nz (l : List Nat) : Bool := l.any fun d => d != 0
def hm (ds : List Nat) : Nat := if nz (ds.drop 16) then hv (ds.take 16) ||| 1 else hv (ds.take 16)
def hx (n : Num) : Int := 4 * ((n.ds.length : Int) - min 16 n.ds.length - n.frac) + n.e
/-- The rung of a number. -/
def mag (n : Num) : Nat :=
  if n.hex then rung (hm n.ds * 2 ^ (hx n).toNat) (2 ^ (-(hx n)).toNat)
  else rung (dn n.ds * 10 ^ (n.e - n.frac).toNat) (10 ^ (-(n.e - n.frac)).toNat)

/-- A word of lower-case letters, whatever the case. -/
def lc (c : Nat) : Nat := if 65 ≤ c ∧ c ≤ 90 then c + 32 else c
def fld (l word : List Nat) : Bool := l.map lc == word
def wNan : List Nat := [110, 97, 110]
def wInf : List Nat := [105, 110, 102]
def wInfinity : List Nat := [105, 110, 102, 105, 110, 105, 116, 121]
def sgnB (b : Bool) : Nat := if b then 9223372036854775808 else 0
/-- What reading a text gives: a float's bits, or nothing. -/
def pf (l : List Nat) : Option Nat :=
  if fld l wNan then some 9221120237041090561
  else if fld (noSgn l) wInf ∨ fld (noSgn l) wInfinity then some (sgnB (isNeg l) + infR)
  else match whole l with
    | none => none
    | some (neg, n) => if mag n = infR then none else some (sgnB neg + mag n)

theorem scan_some {hex : Bool} {st st' : St} {c : Nat} {r : List Nat} (h : stp hex st c = some st') : scan hex st (c :: r) = scan hex st' r := by
  rw [scan, h]
theorem scan_none {hex : Bool} {st : St} {c : Nat} {r : List Nat} (h : stp hex st c = none) : scan hex st (c :: r) = (st, c :: r) := by
  rw [scan, h]
end Go.Proofs.YtknjgopapbemcaaGreatDoor
/- Plain: the mantissa of hexadecimal digits, step by step; the steps of the grammar. -/
namespace Go.Proofs.YtknjgopapbemcaaGreatDoor
theorem hv_snoc (l : List Nat) (d : Nat) : hv (l ++ [d]) = 16 * hv l + d := by simp [hv]
/-- Good digits of a base: small, the first one not 0. -/
structure Dg (B : Nat) (ds : List Nat) : Prop where
  lt : ∀ d ∈ ds, d < B
  first : ds = [] ∨ 0 < dg ds 0
theorem Dg.nil (B : Nat) : Dg B [] := ⟨fun d h => by simp at h, .inl rfl⟩
theorem Dg.push {B : Nat} {ds : List Nat} (h : Dg B ds) {d : Nat} (hd : d < B) : Dg B (psh ds d) := by
  unfold psh
  split
  · exact Dg.nil B
  · rename_i hn
    refine ⟨fun x hx => ?_, .inr ?_⟩
    · rcases List.mem_append.1 hx with h1 | h1
      · exact h.lt x h1
      · rw [List.mem_singleton] at h1; omega
    · rcases h.first with h1 | h1
      · subst h1
        have : d ≠ 0 := fun e => hn ⟨rfl, e⟩
        show 0 < d; omega
      · have hl : 0 < ds.length := by
          rcases Nat.eq_zero_or_pos ds.length with h2 | h2
          · rw [List.eq_nil_of_length_eq_zero h2] at h1; simp [dg] at h1
          · exact h2
        rw [dg_append, if_pos hl]; exact h1
theorem hv_go (l : List Nat) : ∀ a, l.foldl (fun a d => 16 * a + d) a = a * 16 ^ l.length + hv l := by
  induction l with
  | nil => intro a; simp [hv]
  | cons d l ih =>
    intro a
    unfold hv at ih ⊢
    rw [List.foldl_cons, List.foldl_cons, ih, ih (16 * 0 + d), List.length_cons, Nat.pow_succ]
    generalize 16 ^ l.length = P
    have e1 : (16 * a + d) * P = a * (P * 16) + d * P := by rw [Nat.add_mul, Nat.mul_comm 16 a, Nat.mul_assoc, Nat.mul_comm 16 P]
    have e2 : (16 * 0 + d) * P = d * P := by rw [Nat.mul_zero, Nat.zero_add]
    omega
theorem hv_cons (d : Nat) (l : List Nat) : hv (d :: l) = d * 16 ^ l.length + hv l := by
  have := hv_go l (16 * 0 + d)
  rw [Nat.mul_zero, Nat.zero_add] at this
  rw [← this]; unfold hv; rw [List.foldl_cons, Nat.mul_zero, Nat.zero_add]
theorem hv_hi {l : List Nat} (h : ∀ d ∈ l, d < 16) : hv l < 16 ^ l.length := by
  induction l with
  | nil => simp [hv]
  | cons d l ih =>
    rw [hv_cons, List.length_cons, Nat.pow_succ]
    have h1 := ih (fun x hx => h x (List.mem_cons_of_mem _ hx))
    have h2 := h d (List.mem_cons_self ..)
    generalize 16 ^ l.length = P at *
    have : d * P ≤ 15 * P := Nat.mul_le_mul_right _ (by omega)
    omega
theorem hv_lo {d : Nat} {l : List Nat} (h : 0 < d) : 16 ^ l.length ≤ hv (d :: l) := by
  rw [hv_cons]
  have : 1 * 16 ^ l.length ≤ d * 16 ^ l.length := Nat.mul_le_mul_right _ h
  omega
theorem or_one_le (n : Nat) : n ≤ n ||| 1 := Nat.left_le_or
theorem or_one_lt {n : Nat} (h : n < 18446744073709551616) : n ||| 1 < 18446744073709551616 := Nat.or_lt_two_pow (n := 64) h (by decide)
theorem or_one_idem (n : Nat) : (n ||| 1) ||| 1 = n ||| 1 := by rw [Nat.or_assoc]; rfl
theorem nz_snoc (l : List Nat) (d : Nat) : nz (l ++ [d]) = (nz l || (d != 0)) := by unfold nz; simp
theorem hm_le {ds : List Nat} (h : ds.length ≤ 16) : hm ds = hv ds := by
  unfold hm
  rw [List.drop_of_length_le h, List.take_of_length_le h]; rfl
theorem dg_cons (d : Nat) (l : List Nat) : dg (d :: l) 0 = d := rfl
theorem hm_lo {ds : List Nat} (h : Dg 16 ds) (hl : ds.length < 16) : hm ds < 1152921504606846976 := by
  rw [hm_le (by omega)]
  have h1 := hv_hi h.lt
  have h2 : 16 ^ ds.length ≤ 16 ^ 15 := Nat.pow_le_pow_right (by omega) (by omega)
  omega
theorem hv_take16 {ds : List Nat} (h : Dg 16 ds) (hl : 16 ≤ ds.length) : 1152921504606846976 ≤ hv (ds.take 16) ∧ hv (ds.take 16) < 18446744073709551616 := by
  have hlen : (ds.take 16).length = 16 := by rw [List.length_take]; omega
  have h1 := hv_hi (l := ds.take 16) (fun d hd => h.lt d (List.mem_of_mem_take hd))
  rw [hlen] at h1
  refine ⟨?_, h1⟩
  cases ds with
  | nil => simp at hl
  | cons d r =>
    rcases h.first with h2 | h2
    · cases h2
    · rw [dg_cons] at h2
      rw [List.take_succ_cons] at hlen ⊢
      have h3 := hv_lo (d := d) (l := r.take 15) h2
      have h4 : (r.take 15).length = 15 := by rw [List.length_cons] at hlen; omega
      rw [h4] at h3
      exact h3
theorem hm_hi {ds : List Nat} (h : Dg 16 ds) (hl : 16 ≤ ds.length) : 1152921504606846976 ≤ hm ds := by
  have h1 := (hv_take16 h hl).1
  unfold hm
  split
  · have := or_one_le (hv (ds.take 16)); omega
  · exact h1
theorem hm_lt {ds : List Nat} (h : Dg 16 ds) : hm ds < 18446744073709551616 := by
  rcases Nat.lt_or_ge ds.length 16 with hl | hl
  · have := hm_lo h hl; omega
  · have := (hv_take16 h hl).2
    unfold hm
    split
    · exact or_one_lt this
    · exact this
theorem hm_psh_lo {ds : List Nat} {d : Nat} (hl : ds.length < 16) : hm (psh ds d) = 16 * hm ds + d := by
  unfold psh
  split
  · rename_i h; obtain ⟨rfl, rfl⟩ := h; rfl
  · rw [hm_le (by rw [List.length_append, List.length_singleton]; omega), hm_le (by omega), hv_snoc]
theorem hm_psh_hi {ds : List Nat} {d : Nat} (hl : 16 ≤ ds.length) : hm (psh ds d) = if d = 0 then hm ds else hm ds ||| 1 := by
  have hne : ¬ (ds = [] ∧ d = 0) := by rintro ⟨rfl, _⟩; simp at hl
  unfold psh hm
  rw [if_neg hne, List.drop_append_of_le_length hl, List.take_append_of_le_length hl, nz_snoc]
  by_cases h0 : d = 0
  · subst h0; simp
  · rw [if_neg h0]
    have e : (d != 0) = true := by simpa using h0
    rw [e, Bool.or_true, if_pos rfl]
    split
    · rw [or_one_idem]
    · rfl

/-- The binary exponent of the digits so far. -/
def hxs (ds : List Nat) (frac : Nat) : Int := 4 * ((ds.length : Int) - min 16 ds.length - frac)
theorem psh_len (ds : List Nat) (d : Nat) : (psh ds d).length ≤ ds.length + 1 ∧ ds.length ≤ (psh ds d).length := by
  unfold psh
  split
  · rename_i h; obtain ⟨rfl, rfl⟩ := h; simp
  · simp
theorem hxs_lo {ds : List Nat} {d f : Nat} (hl : ds.length < 16) : hxs (psh ds d) f = -4 * (f : Int) ∧ hxs ds f = -4 * (f : Int) := by
  have := psh_len ds d
  unfold hxs; omega
theorem hxs_hi {ds : List Nat} {d f : Nat} (hl : 16 ≤ ds.length) : hxs (psh ds d) f = hxs ds f + 4 := by
  have hne : ¬ (ds = [] ∧ d = 0) := by rintro ⟨rfl, _⟩; simp at hl
  unfold hxs psh
  rw [if_neg hne, List.length_append, List.length_singleton]
  omega

theorem dval_lt {hex : Bool} {c d : Nat} (h : dval hex c = some d) : d < 16 ∧ (hex = false → d < 10) := by
  unfold dval at h
  split at h
  · injection h with h; omega
  · split at h
    · rename_i h2
      injection h with h
      obtain ⟨h3, h4, h5⟩ := h2
      subst h3
      exact ⟨by omega, fun h => by cases h⟩
    · cases h
theorem stp_und {hex : Bool} {st : St} {c : Nat} (h : c = 95) : stp hex st c = some { st with und := true } := by unfold stp; rw [if_pos h]
theorem stp_dot {hex : Bool} {st : St} {c : Nat} (h : c = 46) (hd : st.dot = false) : stp hex st c = some { st with dot := true } := by
  unfold stp; rw [if_neg (by omega), if_pos h, hd]; rfl
theorem dval_46 (hex : Bool) : dval hex 46 = none := by cases hex <;> decide
theorem stp_none {hex : Bool} {st : St} {c : Nat} (h : c ≠ 95) (hd : c = 46 → st.dot = true) (hv : dval hex c = none) : stp hex st c = none := by
  unfold stp; rw [if_neg h]
  split
  · rename_i h2; rw [hd h2]; rfl
  · rw [hv]
theorem stp_dig {hex : Bool} {st : St} {c d : Nat} (h : c ≠ 95) (hv : dval hex c = some d) :
    stp hex st c = some { st with dig := true, ds := psh st.ds d, frac := if st.dot then st.frac + 1 else st.frac } := by
  have h46 : c ≠ 46 := by rintro rfl; rw [dval_46] at hv; cases hv
  unfold stp; rw [if_neg h, if_neg h46, hv]
end Go.Proofs.YtknjgopapbemcaaGreatDoor
/- Plain: the exponent part of the grammar, by places in the text. -/
namespace Go.Proofs.YtknjgopapbemcaaGreatDoor
theorem bt_drop (l : List Nat) (k j : Nat) : bt (l.drop k) j = bt l (k + j) := by
  unfold bt
  rw [List.getD_eq_getElem?_getD, List.getD_eq_getElem?_getD, List.getElem?_drop]
theorem bt_drop0 (l : List Nat) (k : Nat) : bt (l.drop k) 0 = bt l k := by rw [bt_drop, Nat.add_zero]
theorem bt_out {l : List Nat} {k : Nat} (h : l.length ≤ k) : bt l k = 0 := by
  unfold bt; rw [List.getD_eq_getElem?_getD, List.getElem?_eq_none h]; rfl
theorem bt_in {l : List Nat} {k : Nat} (h : bt l k ≠ 0) : k < l.length := by
  rcases Nat.lt_or_ge k l.length with h1 | h1
  · exact h1
  · exact absurd (bt_out h1) h
/-- Where the digits of an exponent begin, its text beginning at k. -/
def sk (l : List Nat) (k : Nat) : Nat := if bt l k = 43 ∨ bt l k = 45 then k + 1 else k
theorem exHd_drop (l : List Nat) (k : Nat) : exHd (l.drop k) = l.drop (sk l k) := by
  unfold exHd sk
  rw [bt_drop0]
  split
  · rw [List.drop_drop]
  · rfl
theorem ex_no {l : List Nat} {k : Nat} (h : ¬ (48 ≤ bt l (sk l k) ∧ bt l (sk l k) ≤ 57)) : ex (l.drop k) = none := by
  unfold ex; rw [exHd_drop, bt_drop0, if_neg h]
theorem ex_yes {l : List Nat} {k e j : Nat} {u : Bool} (h : 48 ≤ bt l (sk l k) ∧ bt l (sk l k) ≤ 57) (he : eg 0 false (l.drop (sk l k)) = (e, u, l.drop j)) :
    ex (l.drop k) = some (if bt l k = 45 then -(e : Int) else (e : Int), u, l.drop j) := by
  unfold ex; rw [exHd_drop, bt_drop0, bt_drop0, if_pos h, he]
theorem body_nodig {hex : Bool} {l r : List Nat} {st : St} (hs : scan hex st0 l = (st, r)) (h : st.dig = false) : body hex l = none := by
  unfold body; rw [hs, if_pos h]
theorem body_exno {hex : Bool} {l : List Nat} {st : St} {i : Nat} (hs : scan hex st0 l = (st, l.drop i)) (h : st.dig = true) (hm : lw (bt l i) = mark hex) (he : ex (l.drop (i + 1)) = none) : body hex l = none := by
  unfold body; rw [hs, if_neg (by rw [h]; simp)]
  dsimp only
  rw [bt_drop0, if_pos hm, List.drop_drop, he]
theorem body_exyes {hex : Bool} {l r : List Nat} {st : St} {i : Nat} {e : Int} {u : Bool} (hs : scan hex st0 l = (st, l.drop i)) (h : st.dig = true) (hm : lw (bt l i) = mark hex) (he : ex (l.drop (i + 1)) = some (e, u, r)) :
    body hex l = some (⟨hex, st.ds, st.frac, e, st.und || u⟩, r) := by
  unfold body; rw [hs, if_neg (by rw [h]; simp)]
  dsimp only
  rw [bt_drop0, if_pos hm, List.drop_drop, he]
theorem body_hexno {l : List Nat} {st : St} {i : Nat} (hs : scan true st0 l = (st, l.drop i)) (h : st.dig = true) (hm : lw (bt l i) ≠ mark true) : body true l = none := by
  unfold body; rw [hs, if_neg (by rw [h]; simp)]
  dsimp only
  rw [bt_drop0, if_neg hm, if_pos rfl]
theorem body_dec {l : List Nat} {st : St} {i : Nat} (hs : scan false st0 l = (st, l.drop i)) (h : st.dig = true) (hm : lw (bt l i) ≠ mark false) : body false l = some (⟨false, st.ds, st.frac, 0, st.und⟩, l.drop i) := by
  unfold body; rw [hs, if_neg (by rw [h]; simp)]
  dsimp only
  rw [bt_drop0, if_neg hm, if_neg (by simp)]
theorem eg_end {l : List Nat} {e k : Nat} {u : Bool} (h : ¬ (48 ≤ bt l k ∧ bt l k ≤ 57)) (h2 : bt l k ≠ 95) : eg e u (l.drop k) = (e, u, l.drop k) := by
  rcases Nat.lt_or_ge k l.length with hk | hk
  · rw [drop_bt hk, eg, if_neg h2, if_neg h]
  · rw [List.drop_of_length_le hk, eg]
theorem eg_und {l : List Nat} {e k : Nat} {u : Bool} (hk : k < l.length) (h2 : bt l k = 95) : eg e u (l.drop k) = eg e true (l.drop (k + 1)) := by
  rw [drop_bt hk, eg, if_pos h2]
theorem eg_dig {l : List Nat} {e k : Nat} {u : Bool} (hk : k < l.length) (h : 48 ≤ bt l k ∧ bt l k ≤ 57) : eg e u (l.drop k) = eg (if e < 10000 then e * 10 + (bt l k - 48) else e) u (l.drop (k + 1)) := by
  rw [drop_bt hk, eg, if_neg (by omega), if_pos h]
/-- What the light reader gives. -/
def hexL (l : List Nat) : Bool := decide (2 ≤ l.length ∧ bt l 0 = 48 ∧ lw (bt l 1) = 120)
def whl : Option (Num × List Nat) → Option Num
  | some (n, []) => some n
  | _ => none
def rdL (l : List Nat) : Option Num := whl (body (hexL l) (if hexL l then l.drop 2 else l))
theorem whl_end {n : Num} {l : List Nat} {k : Nat} (h : l.length ≤ k) : whl (some (n, l.drop k)) = some n := by rw [List.drop_of_length_le h]; rfl
theorem whl_more {n : Num} {l : List Nat} {k : Nat} (h : k < l.length) : whl (some (n, l.drop k)) = none := by rw [drop_bt h]; rfl
end Go.Proofs.YtknjgopapbemcaaGreatDoor
/- Plain: a text read by the light reader, in the words of the grammar. -/
namespace Go.Proofs.YtknjgopapbemcaaGreatDoor

theorem stp_und_iff {hex : Bool} {st st' : St} {c : Nat} (h : stp hex st c = some st') : st'.und = true ↔ st.und = true ∨ 95 = c := by
  unfold stp at h
  split at h
  · rename_i hc; cases h; simp [hc]
  · rename_i hc
    have hc' : ¬ 95 = c := fun e => hc e.symm
    split at h
    · split at h
      · cases h
      · cases h; simp [hc']
    · split at h
      · cases h
      · cases h; simp [hc']
theorem scan_eat (hex : Bool) : ∀ (l : List Nat) (st : St), ∃ c, l = c ++ (scan hex st l).2 ∧ ((scan hex st l).1.und = true ↔ st.und = true ∨ 95 ∈ c) := by
  intro l
  induction l with
  | nil => intro st; exact ⟨[], rfl, by simp [scan]⟩
  | cons c r ih =>
    intro st
    cases hs : stp hex st c with
    | none => rw [scan_none hs]; exact ⟨[], rfl, by simp⟩
    | some st' =>
      rw [scan_some hs]
      obtain ⟨c', h1, h2⟩ := ih st'
      refine ⟨c :: c', by rw [List.cons_append, ← h1], ?_⟩
      rw [h2, stp_und_iff hs, List.mem_cons, or_assoc]
theorem eg_eat : ∀ (l : List Nat) (e : Nat) (u : Bool), ∃ c, l = c ++ (eg e u l).2.2 ∧ ((eg e u l).2.1 = true ↔ u = true ∨ 95 ∈ c) := by
  intro l
  induction l with
  | nil => intro e u; exact ⟨[], rfl, by simp [eg]⟩
  | cons c r ih =>
    intro e u
    rw [eg]
    split
    · rename_i hc
      obtain ⟨c', h1, h2⟩ := ih e true
      refine ⟨c :: c', by rw [List.cons_append, ← h1], ?_⟩
      rw [h2]; simp [hc]
    · rename_i hc
      split
      · obtain ⟨c', h1, h2⟩ := ih (if e < 10000 then e * 10 + (c - 48) else e) u
        refine ⟨c :: c', by rw [List.cons_append, ← h1], ?_⟩
        rw [h2]; simp [Ne.symm hc]
      · exact ⟨[], rfl, by simp⟩
theorem lw_95 : lw 95 = 127 := rfl
theorem und_mem {hex : Bool} {l : List Nat} {n : Num} (h : body hex l = some (n, [])) : n.und = true ↔ 95 ∈ l := by
  obtain ⟨c, h1, h2⟩ := scan_eat hex l st0
  have h0 : st0.und = false := rfl
  rw [h0] at h2
  unfold body at h
  generalize scan hex st0 l = S at *
  obtain ⟨st, r⟩ := S
  simp only at h h1 h2
  split at h
  · cases h
  · split at h
    · rename_i hm
      have hr : r ≠ [] := by
        intro e; subst e
        revert hm; cases hex <;> decide
      obtain ⟨m, r', rfl⟩ := List.exists_cons_of_ne_nil hr
      have hm95 : m ≠ 95 := by
        have hm2 : lw m = mark hex := hm
        clear hm h h1
        intro e; subst e
        revert hm2; cases hex <;> decide
      simp only [List.drop_succ_cons, List.drop_zero] at h
      unfold ex at h
      split at h
      · cases h
      · rename_i he
        split at he
        · obtain ⟨c2, h3, h4⟩ := eg_eat (exHd r') 0 false
          simp only [Option.some.injEq, Prod.mk.injEq] at he h
          obtain ⟨he1, he2, he3⟩ := he
          obtain ⟨hn, hrr⟩ := h
          subst hn
          rw [he3, hrr, List.append_nil] at h3
          rw [he2] at h4
          have h5 : 95 ∈ r' ↔ 95 ∈ c2 := by
            rw [← h3]
            unfold exHd
            split
            · rename_i hsg
              cases r' with
              | nil => simp
              | cons a r'' =>
                have ha : a ≠ 95 := by
                  have : bt (a :: r'') 0 = a := rfl
                  rw [this] at hsg; omega
                simp [Ne.symm ha]
            · rfl
          rw [h1, List.mem_append, List.mem_cons, h5]
          simp only [Bool.or_eq_true, h2, h4, Bool.false_eq_true, false_or]
          simp [Ne.symm hm95]
        · cases he
    · split at h
      · cases h
      · simp only [Option.some.injEq, Prod.mk.injEq] at h
        obtain ⟨hn, rfl⟩ := h
        subst hn
        rw [h1, List.append_nil]
        simpa using h2
theorem rdL_uns (l : List Nat) : rdL l = whl (uns l) := by
  unfold rdL uns
  by_cases h : isHex l
  · have h2 : hexL l = true := by
      unfold isHex at h; unfold hexL
      simp at h ⊢; omega
    rw [h, h2]; rfl
  · rw [if_neg h]
    by_cases h2 : hexL l
    · have hl : l.length = 2 ∧ bt l 0 = 48 ∧ lw (bt l 1) = 120 := by
        unfold isHex at h; unfold hexL at h2
        simp at h h2; omega
      obtain ⟨hl, h48, hx⟩ := hl
      match l, hl with
      | [a, b], _ =>
        have ha : a = 48 := h48
        have hb : lw b = 120 := hx
        subst ha
        rw [h2, if_pos rfl]
        have hd : dval false b = none := by
          unfold dval
          rw [if_neg, if_neg (by simp)]
          rintro ⟨h1, h3⟩
          have : lw b = b := by
            have hz : ∀ i : Fin 10, lw (48 + i.val) = 48 + i.val := by decide
            have := hz ⟨b - 48, by omega⟩
            simp only at this
            rw [show 48 + (b - 48) = b by omega] at this
            exact this
          omega
        have hb95 : b ≠ 95 := by intro e; subst e; revert hb; decide
        have hb46 : b ≠ 46 := by intro e; subst e; revert hb; decide
        have e1 : body true (List.drop 2 [48, b]) = none := rfl
        rw [e1]
        have e2 : scan false st0 [48, b] = (⟨[], 0, false, true, false⟩, [b]) := by
          rw [scan_some (st' := ⟨[], 0, false, true, false⟩) rfl]
          have hs : stp false ⟨[], 0, false, true, false⟩ b = none := by
            unfold stp
            rw [if_neg hb95, if_neg hb46, hd]
          rw [scan_none hs]
        unfold body
        rw [e2]
        simp only
        rw [if_neg (by simp), if_neg (by show lw b ≠ 101; omega), if_neg (by simp)]
        rfl
    · rw [if_neg h2]
      have h2f : hexL l = false := by simpa using h2
      rw [h2f]
theorem noSgn_mem (l : List Nat) : 95 ∈ noSgn l ↔ 95 ∈ l := by
  unfold noSgn hasSgn
  split
  · rename_i h
    simp at h
    cases l with
    | nil => simp
    | cons a r =>
      have ha : a ≠ 95 := by
        have : bt (a :: r) 0 = a := rfl
        rw [this] at h; omega
      simp [Ne.symm ha]
  · rfl
theorem whole_rd (l : List Nat) : whole l = match rdL (noSgn l) with
    | none => none
    | some n => if (if 95 ∈ l then uOK l else true) = true then some (isNeg l, n) else none := by
  rw [rdL_uns]
  unfold whole
  have key : ∀ n, uns (noSgn l) = some (n, []) → (n.und = true ↔ 95 ∈ l) := by
    intro n h
    rw [← noSgn_mem]
    unfold uns at h
    split at h
    · rename_i hh
      rw [und_mem h]
      -- the prefix has no underscore
      unfold isHex at hh
      simp at hh
      generalize noSgn l = t at *
      match t, hh with
      | a :: b :: r, hh =>
        have h1 : a = 48 := hh.2.1
        have h2 : lw b = 120 := hh.2.2
        have hb95 : b ≠ 95 := by intro e; subst e; revert h2; decide
        subst h1
        simp [Ne.symm hb95]
    · exact und_mem h
  cases hu : uns (noSgn l) with
  | none => rfl
  | some p =>
    obtain ⟨n, r⟩ := p
    cases r with
    | cons a r => rfl
    | nil =>
      have hk := key n hu
      simp only [whl]
      by_cases hm : 95 ∈ l
      · rw [if_pos hm]
        have hund := hk.2 hm
        cases uOK l <;> simp [hund]
      · rw [if_neg hm]
        have hund : n.und = false := by
          cases hn : n.und
          · rfl
          · exact absurd (hk.1 hn) hm
        simp [hund]
end Go.Proofs.YtknjgopapbemcaaGreatDoor
/- Plain: the steps of Go's own reader of mantissa and exponent. -/
namespace Go.Proofs.YtknjgopapbemcaaGreatDoor
set_option linter.unusedVariables false
set_option linter.unusedSimpArgs false
/-- How many digits the mantissa takes. -/
def mkx (hex : Bool) : Nat := if hex then 16 else 19
def bs (hex : Bool) : Nat := if hex then 16 else 10
/-- The mantissa. -/
def mv (hex : Bool) (ds : List Nat) : Nat := if hex then hv (ds.take 16) else dn (ds.take 19)
structure RfInv (hex : Bool) (t0 l : List Nat) (i : Nat) (st : St) (mt : Nat) (tr : Bool) (dp : Int) : Prop where
  sc : scan hex st0 t0 = scan hex st (l.drop i)
  il : i ≤ l.length
  fr : st.frac ≤ i
  len : st.ds.length ≤ i
  d16 : Dg 16 st.ds
  d10 : hex = false → Dg 10 st.ds
  mt : mt = mv hex st.ds
  tr : tr = nz (st.ds.drop (mkx hex))
  dpd : st.dot = true → dp = (st.ds.length : Int) - st.frac
  dpn : st.dot = false → st.frac = 0
  dpb : -(i : Int) ≤ dp ∧ dp ≤ i
theorem rf_start {hex : Bool} {l : List Nat} {i : Nat} (hi : i ≤ l.length) : RfInv hex (l.drop i) l i st0 0 false 0 :=
  ⟨rfl, hi, Nat.zero_le _, Nat.zero_le _, Dg.nil _, fun _ => Dg.nil _, (by cases hex <;> rfl), (by cases hex <;> rfl), (fun h => by cases h), (fun _ => rfl), (by omega)⟩
theorem foldl10_lt : ∀ (l : List Nat) (a : Nat), (∀ d ∈ l, d < 10) → l.foldl (fun a d => 10 * a + d) a < (a + 1) * 10 ^ l.length := by
  intro l
  induction l with
  | nil => intro a _; simp
  | cons d l ih =>
    intro a h
    rw [List.foldl_cons, List.length_cons]
    have h1 := ih (10 * a + d) (fun x hx => h x (List.mem_cons_of_mem _ hx))
    have h2 := h d (List.mem_cons_self ..)
    have h3 : (10 * a + d + 1) * 10 ^ l.length ≤ (10 * (a + 1)) * 10 ^ l.length := Nat.mul_le_mul_right _ (by omega)
    rw [Nat.pow_succ]
    have h4 : (10 * (a + 1)) * 10 ^ l.length = (a + 1) * (10 ^ l.length * 10) := by ac_rfl
    omega
theorem dn_hi10 {l : List Nat} (h : ∀ d ∈ l, d < 10) : dn l < 10 ^ l.length := by
  have := foldl10_lt l 0 h
  rw [Nat.zero_add, Nat.one_mul] at this
  exact this
theorem mv_lt {hex : Bool} {ds : List Nat} (h16 : Dg 16 ds) (h10 : hex = false → Dg 10 ds) : mv hex ds < 18446744073709551616 ∧ (hex = false → mv hex ds < 10000000000000000000) := by
  cases hex with
  | true =>
    refine ⟨?_, fun h => by cases h⟩
    show hv (ds.take 16) < _
    have h1 := hv_hi (l := ds.take 16) (fun d hd => h16.lt d (List.mem_of_mem_take hd))
    have h2 : 16 ^ (ds.take 16).length ≤ 16 ^ 16 := Nat.pow_le_pow_right (by omega) (by rw [List.length_take]; omega)
    omega
  | false =>
    have h1 := dn_hi10 (l := ds.take 19) (fun d hd => (h10 rfl).lt d (List.mem_of_mem_take hd))
    have h2 : 10 ^ (ds.take 19).length ≤ 10 ^ 19 := Nat.pow_le_pow_right (by omega) (by rw [List.length_take]; omega)
    have h3 : mv false ds < 10000000000000000000 := by show dn (ds.take 19) < _; omega
    exact ⟨by omega, fun _ => h3⟩
/-- Below the most digits there is room for one more. -/
theorem mv_room {hex : Bool} {ds : List Nat} (h16 : Dg 16 ds) (h10 : hex = false → Dg 10 ds) (hl : ds.length < mkx hex) : mv hex ds < (if hex then 1152921504606846976 else 1000000000000000000) := by
  cases hex with
  | true =>
    have hl' : ds.length < 16 := hl
    show hv (ds.take 16) < 1152921504606846976
    rw [List.take_of_length_le (by omega)]
    have h1 := hv_hi h16.lt
    have h2 : 16 ^ ds.length ≤ 16 ^ 15 := Nat.pow_le_pow_right (by omega) (by omega)
    omega
  | false =>
    have hl' : ds.length < 19 := hl
    show dn (ds.take 19) < 1000000000000000000
    rw [List.take_of_length_le (by omega)]
    have h1 := dn_hi10 (h10 rfl).lt
    have h2 : 10 ^ ds.length ≤ 10 ^ 18 := Nat.pow_le_pow_right (by omega) (by omega)
    omega
theorem mv_push {hex : Bool} {ds : List Nat} {d : Nat} (hl : ds.length < mkx hex) : mv hex (ds ++ [d]) = bs hex * mv hex ds + d := by
  cases hex with
  | true =>
    have hl' : ds.length < 16 := hl
    show hv ((ds ++ [d]).take 16) = 16 * hv (ds.take 16) + d
    rw [List.take_of_length_le (by rw [List.length_append, List.length_singleton]; omega), List.take_of_length_le (by omega), hv_snoc]
  | false =>
    have hl' : ds.length < 19 := hl
    show dn ((ds ++ [d]).take 19) = 10 * dn (ds.take 19) + d
    rw [List.take_of_length_le (by rw [List.length_append, List.length_singleton]; omega), List.take_of_length_le (by omega), dn_snoc]
theorem mv_full {hex : Bool} {ds : List Nat} {d : Nat} (hl : mkx hex ≤ ds.length) : mv hex (ds ++ [d]) = mv hex ds := by
  cases hex with
  | true =>
    have hl' : 16 ≤ ds.length := hl
    show hv ((ds ++ [d]).take 16) = hv (ds.take 16); rw [List.take_append_of_le_length hl']
  | false =>
    have hl' : 19 ≤ ds.length := hl
    show dn ((ds ++ [d]).take 19) = dn (ds.take 19); rw [List.take_append_of_le_length hl']
theorem nz_lo {hex : Bool} {ds : List Nat} (hl : ds.length ≤ mkx hex) : nz (ds.drop (mkx hex)) = false := by rw [List.drop_of_length_le hl]; rfl
theorem RfInv.step {hex : Bool} {t0 l : List Nat} {i c : Nat} {st st' : St} {mt mt' : Nat} {tr tr' : Bool} {dp dp' : Int} (h : RfInv hex t0 l i st mt tr dp) (hi : i < l.length) (hc : c = bt l i) (hs : stp hex st c = some st')
    (h1 : st'.frac ≤ i + 1) (h2 : st'.ds.length ≤ i + 1) (h3 : Dg 16 st'.ds) (h4 : hex = false → Dg 10 st'.ds) (h5 : mt' = mv hex st'.ds) (h6 : tr' = nz (st'.ds.drop (mkx hex)))
    (h7 : st'.dot = true → dp' = (st'.ds.length : Int) - st'.frac) (h8 : st'.dot = false → st'.frac = 0) (h9 : -((i + 1 : Nat) : Int) ≤ dp' ∧ dp' ≤ (i + 1 : Nat)) : RfInv hex t0 l (i + 1) st' mt' tr' dp' :=
  ⟨by rw [h.sc, drop_bt hi, ← hc, scan_some hs], by omega, h1, h2, h3, h4, h5, h6, h7, h8, h9⟩
theorem RfInv.undS {hex : Bool} {t0 l : List Nat} {i c : Nat} {st : St} {mt : Nat} {tr : Bool} {dp : Int} (h : RfInv hex t0 l i st mt tr dp) (hi : i < l.length) (hc : c = bt l i) (e : c = 95) :
    RfInv hex t0 l (i + 1) { st with und := true } mt tr dp :=
  h.step hi hc (stp_und e) (Nat.le_succ_of_le h.fr) (Nat.le_succ_of_le h.len) h.d16 h.d10 h.mt h.tr h.dpd h.dpn (by have := h.dpb; omega)
theorem RfInv.dotS {hex : Bool} {t0 l : List Nat} {i c : Nat} {st : St} {mt : Nat} {tr : Bool} {dp : Int} (h : RfInv hex t0 l i st mt tr dp) (hi : i < l.length) (hc : c = bt l i) (e : c = 46) (hd : st.dot = false) :
    RfInv hex t0 l (i + 1) { st with dot := true } mt tr (st.ds.length : Int) :=
  h.step hi hc (stp_dot e hd) (Nat.le_succ_of_le h.fr) (Nat.le_succ_of_le h.len) h.d16 h.d10 h.mt h.tr (fun _ => by have := h.dpn hd; show _ = (st.ds.length : Int) - (st.frac : Nat); omega) (fun h => by cases h) (by have := h.len; omega)
/-- A zero ahead of all digits. -/
theorem RfInv.zero {hex : Bool} {t0 l : List Nat} {i c : Nat} {frac : Nat} {dot dig und : Bool} {mt : Nat} {tr : Bool} {dp : Int} (h : RfInv hex t0 l i ⟨[], frac, dot, dig, und⟩ mt tr dp) (hi : i < l.length) (hc : c = bt l i) (e : c = 48) :
    RfInv hex t0 l (i + 1) ⟨[], if dot then frac + 1 else frac, dot, true, und⟩ mt tr (dp - 1) := by
  have hv : dval hex c = some 0 := by subst e; cases hex <;> rfl
  have hs := stp_dig (st := ⟨[], frac, dot, dig, und⟩) (by omega) hv
  have hp : psh [] 0 = [] := rfl
  simp only [hp] at hs
  have hf := h.fr
  have hb := h.dpb
  simp only at hf
  refine h.step hi hc hs (by dsimp only; split <;> omega) (Nat.zero_le _) h.d16 h.d10 h.mt h.tr (fun hd => ?_) (fun hd => ?_) (by omega)
  · have h1 := h.dpd hd
    simp only at h1 hd
    subst hd
    simp only [if_true]
    omega
  · have h1 := h.dpn hd
    simp only at h1 hd
    subst hd
    simp [h1]
/-- A digit. -/
theorem RfInv.digS {hex : Bool} {t0 l : List Nat} {i c d : Nat} {ds : List Nat} {frac : Nat} {dot dig und : Bool} {mt mt' : Nat} {tr tr' : Bool} {dp : Int} (h : RfInv hex t0 l i ⟨ds, frac, dot, dig, und⟩ mt tr dp) (hi : i < l.length) (hc : c = bt l i) (h95 : c ≠ 95)
    (hv : dval hex c = some d) (hn : 0 < ds.length ∨ d ≠ 0) (hm : (ds.length < mkx hex ∧ mt' = bs hex * mt + d ∧ tr' = tr) ∨ (mkx hex ≤ ds.length ∧ mt' = mt ∧ tr' = (tr || d != 0))) :
    RfInv hex t0 l (i + 1) ⟨ds ++ [d], if dot then frac + 1 else frac, dot, true, und⟩ mt' tr' dp := by
  have hp : psh ds d = ds ++ [d] := by
    unfold psh; rw [if_neg]; rintro ⟨rfl, rfl⟩; simp at hn
  have hs := stp_dig (st := ⟨ds, frac, dot, dig, und⟩) h95 hv
  simp only [hp] at hs
  have hf := h.fr
  have hl := h.len
  have hb := h.dpb
  have hmt := h.mt
  have htr := h.tr
  simp only at hf hl hmt htr
  refine h.step hi hc hs (by dsimp only; split <;> omega) (by dsimp only; rw [List.length_append, List.length_singleton]; omega) (by rw [← hp]; exact h.d16.push (dval_lt hv).1) (fun hx => by rw [← hp]; exact (h.d10 hx).push ((dval_lt hv).2 hx)) ?_ ?_ (fun hd => ?_) (fun hd => ?_) (by omega)
  · rcases hm with ⟨a, b, _⟩ | ⟨a, b, _⟩
    · rw [mv_push a, b, hmt]
    · rw [mv_full a, b, hmt]
  · rcases hm with ⟨a, _, b⟩ | ⟨a, _, b⟩
    · rw [b, htr, nz_lo (by omega), nz_lo (by rw [List.length_append, List.length_singleton]; omega)]
    · rw [b, htr, List.drop_append_of_le_length a, nz_snoc]
  · have h1 := h.dpd hd
    simp only at h1 hd
    subst hd
    simp only [if_true, List.length_append, List.length_singleton]
    omega
  · have h1 := h.dpn hd
    simp only at h1 hd
    subst hd
    simp [h1]
structure RfEnd (hex : Bool) (t0 l : List Nat) (i : Nat) (st : St) (mt : Nat) (tr : Bool) (dp : Int) : Prop where
  inv : RfInv hex t0 l i st mt tr dp
  stop : scan hex st0 t0 = (st, l.drop i)
theorem RfInv.stopS {hex : Bool} {t0 l : List Nat} {i c : Nat} {st : St} {mt : Nat} {tr : Bool} {dp : Int} (h : RfInv hex t0 l i st mt tr dp) (hi : i < l.length) (hc : c = bt l i) (e : c ≠ 95) (hd : c = 46 → st.dot = true) (hv : dval hex c = none) :
    RfEnd hex t0 l i st mt tr dp := by
  refine ⟨h, ?_⟩
  rw [h.sc, drop_bt hi, ← hc, scan_none (stp_none e hd hv)]
theorem RfInv.fin {hex : Bool} {t0 l : List Nat} {i : Nat} {st : St} {mt : Nat} {tr : Bool} {dp : Int} (h : RfInv hex t0 l i st mt tr dp) (hi : i = l.length) : RfEnd hex t0 l i st mt tr dp := by
  refine ⟨h, ?_⟩
  subst hi
  rw [h.sc, List.drop_length, scan]

theorem bodyG_nodig {hex : Bool} {t0 r : List Nat} {st : St} (hs : scan hex st0 t0 = (st, r)) (h : st.dig = false) : body hex t0 = none := by
  unfold body; rw [hs, if_pos h]
theorem bodyG_exno {hex : Bool} {t0 l : List Nat} {st : St} {i : Nat} (hs : scan hex st0 t0 = (st, l.drop i)) (h : st.dig = true) (hm : lw (bt l i) = mark hex) (he : ex (l.drop (i + 1)) = none) : body hex t0 = none := by
  unfold body; rw [hs, if_neg (by rw [h]; simp)]
  dsimp only
  rw [bt_drop0, if_pos hm, List.drop_drop, he]
theorem bodyG_exyes {hex : Bool} {t0 l r : List Nat} {st : St} {i : Nat} {e : Int} {u : Bool} (hs : scan hex st0 t0 = (st, l.drop i)) (h : st.dig = true) (hm : lw (bt l i) = mark hex) (he : ex (l.drop (i + 1)) = some (e, u, r)) :
    body hex t0 = some (⟨hex, st.ds, st.frac, e, st.und || u⟩, r) := by
  unfold body; rw [hs, if_neg (by rw [h]; simp)]
  dsimp only
  rw [bt_drop0, if_pos hm, List.drop_drop, he]
theorem bodyG_hexno {t0 l : List Nat} {st : St} {i : Nat} (hs : scan true st0 t0 = (st, l.drop i)) (h : st.dig = true) (hm : lw (bt l i) ≠ mark true) : body true t0 = none := by
  unfold body; rw [hs, if_neg (by rw [h]; simp)]
  dsimp only
  rw [bt_drop0, if_neg hm, if_pos rfl]
theorem bodyG_dec {t0 l : List Nat} {st : St} {i : Nat} (hs : scan false st0 t0 = (st, l.drop i)) (h : st.dig = true) (hm : lw (bt l i) ≠ mark false) : body false t0 = some (⟨false, st.ds, st.frac, 0, st.und⟩, l.drop i) := by
  unfold body; rw [hs, if_neg (by rw [h]; simp)]
  dsimp only
  rw [bt_drop0, if_neg hm, if_neg (by simp)]
end Go.Proofs.YtknjgopapbemcaaGreatDoor
