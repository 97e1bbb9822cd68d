/- Ka: joined by merge.py for the claim. -/
import Derived.Test.YtknjgopapbemcaaGreatDoorXTd
/- Plain: unicode.SimpleFold goes round. -/
namespace Go.Proofs.YtknjgopapbemcaaGreatDoor
open Go.Lib (CaseRow caseA caseT lookupIdx convertR)
open Go.RowKit (wrap32)
set_option linter.unusedVariables false
set_option linter.unusedSimpArgs false
/-- Row i of the table of cases. -/
def crow (i : Nat) : CaseRow := caseA.getD i (0, 0, 0, 0, 0)
/-- What a row makes of a rune. -/
def rstep (x : CaseRow) (r : Int) : Int := if wrap32 (convertR 1 r x) = r then wrap32 (convertR 0 r x) else wrap32 (convertR 1 r x)
def orbSearch (r : Int) : Nat → Nat → Nat → Nat
  | 0, lo, _ => lo
  | f + 1, lo, hi => if lo < hi then (if ((orbit.getD ((lo + hi) / 2) (0, 0)).1 : Int) < r then orbSearch r f ((lo + hi) / 2 + 1) hi else orbSearch r f lo ((lo + hi) / 2)) else lo
def orbAt (r : Int) : Nat := orbSearch r 100 0 94
def inOrb (r : Int) : Bool := decide (orbAt r < 94) && ((orbit.getD (orbAt r) (0, 0)).1 : Int) == r
/-- unicode.SimpleFold. -/
def sfr (r : Int) : Int :=
  if r < 128 then (afold.getD r.toNat 0 : Nat)
  else if inOrb r then ((orbit.getD (orbAt r) (0, 0)).2 : Nat)
  else match lookupIdx caseA r (caseA.size + 1) 0 caseA.size with
    | some i => rstep (crow i) r
    | none => r
def sit : Nat → Int → Int
  | 0, r => r
  | k + 1, r => sfr (sit k r)
/-- It comes back to r in four steps at most. -/
def Cyc (r : Int) : Prop := ∃ k, 1 ≤ k ∧ k ≤ 4 ∧ sit k r = r
theorem case_size : caseA.size = 336 := by kernel_rfl
/-- The rows stand in order. -/
def inOrder : List CaseRow → Bool
  | [] => true
  | [a] => decide (a.1 ≤ a.2.1)
  | a :: b :: r => decide (a.1 ≤ a.2.1) && decide (a.2.1 < b.1) && inOrder (b :: r)
theorem case_order : inOrder caseT = true := by kernel_rfl
theorem inOrder_le : ∀ (l : List CaseRow), inOrder l = true → ∀ i, i < l.length → (l.getD i (0, 0, 0, 0, 0)).1 ≤ (l.getD i (0, 0, 0, 0, 0)).2.1 := by
  intro l
  induction l with
  | nil => intro _ i hi; simp at hi
  | cons a l ih =>
    intro h i hi
    cases l with
    | nil =>
      have : i = 0 := by simp at hi; omega
      subst this
      exact of_decide_eq_true h
    | cons b r =>
      unfold inOrder at h
      rw [Bool.and_eq_true, Bool.and_eq_true, decide_eq_true_iff, decide_eq_true_iff] at h
      cases i with
      | zero => exact h.1.1
      | succ i => exact ih h.2 i (by simpa using hi)
theorem inOrder_step : ∀ (l : List CaseRow), inOrder l = true → ∀ i, i + 1 < l.length → (l.getD i (0, 0, 0, 0, 0)).2.1 < (l.getD (i + 1) (0, 0, 0, 0, 0)).1 := by
  intro l
  induction l with
  | nil => intro _ i hi; simp at hi
  | cons a l ih =>
    intro h i hi
    cases l with
    | nil => simp at hi
    | cons b r =>
      unfold inOrder at h
      rw [Bool.and_eq_true, Bool.and_eq_true, decide_eq_true_iff, decide_eq_true_iff] at h
      cases i with
      | zero => exact h.1.2
      | succ i => exact ih h.2 i (by simpa using hi)
theorem crow_list (i : Nat) : crow i = caseT.getD i (0, 0, 0, 0, 0) := by
  unfold crow caseA
  simp [Array.getD_eq_getD_getElem?, List.getD_eq_getElem?_getD]
theorem caseT_len : caseT.length = 336 := by kernel_rfl
theorem crow_le {i : Nat} (h : i < 336) : (crow i).1 ≤ (crow i).2.1 := by rw [crow_list]; exact inOrder_le _ case_order i (by rw [caseT_len]; exact h)
theorem crow_lt : ∀ (d i : Nat), i + d + 1 < 336 → (crow i).2.1 < (crow (i + d + 1)).1 := by
  intro d
  induction d with
  | zero => intro i h; rw [crow_list, crow_list]; exact inOrder_step _ case_order i (by rw [caseT_len]; exact h)
  | succ d ih =>
    intro i h
    have h1 := ih i (by omega)
    have h2 := crow_le (i := i + d + 1) (by omega)
    have h3 : (crow (i + d + 1)).2.1 < (crow (i + d + 1 + 1)).1 := by rw [crow_list, crow_list]; exact inOrder_step _ case_order _ (by rw [caseT_len]; exact h)
    show _ < (crow (i + d + 1 + 1)).1
    omega
theorem crow_lt' {i j : Nat} (hij : i < j) (hj : j < 336) : (crow i).2.1 < (crow j).1 := by
  obtain ⟨d, rfl⟩ : ∃ d, j = i + d + 1 := ⟨j - i - 1, by omega⟩
  exact crow_lt d i hj
/-- The search finds the row that holds r. -/
theorem look_some (r : Int) : ∀ (f lo hi i : Nat), hi - lo < f → lo ≤ i → i < hi → hi ≤ 336 → ((crow i).1 : Int) ≤ r → r ≤ ((crow i).2.1 : Int) → lookupIdx caseA r f lo hi = some i := by
  intro f
  induction f with
  | zero => intro lo hi i h; omega
  | succ f ih =>
    intro lo hi i hf h1 h2 h3 h4 h5
    unfold lookupIdx
    rw [if_pos (by omega)]
    have hm : lo ≤ (lo + hi) / 2 ∧ (lo + hi) / 2 < hi := by omega
    have e : ∀ k, caseA.getD k (0, 0, 0, 0, 0) = crow k := fun k => rfl
    rw [e]
    generalize (lo + hi) / 2 = m at *
    rcases Nat.lt_trichotomy m i with hlt | heq | hgt
    · have h6 := crow_lt' hlt (by omega)
      rw [if_neg (by omega), if_neg (by have := crow_le (i := m) (by omega); omega)]
      exact ih _ _ _ (by omega) (by omega) h2 h3 h4 h5
    · subst heq
      rw [if_pos ⟨h4, h5⟩]
    · have h6 := crow_lt' hgt (by omega)
      rw [if_neg (by omega), if_pos (by omega)]
      exact ih _ _ _ (by omega) h1 hgt (by omega) h4 h5
theorem sfr_row {r : Int} {i : Nat} (h128 : 128 ≤ r) (ho : inOrb r = false) (hi : i < 336) (h4 : ((crow i).1 : Int) ≤ r) (h5 : r ≤ ((crow i).2.1 : Int)) : sfr r = rstep (crow i) r := by
  unfold sfr
  rw [if_neg (by omega), ho, if_neg (by simp), case_size, look_some r 337 0 336 i (by omega) (by omega) hi (by omega) h4 h5]
/-- The row that holds r. -/
def findRow (r : Nat) : List CaseRow → Option CaseRow
  | [] => none
  | a :: l => match Nat.ble a.1 r && Nat.ble r a.2.1 with
    | true => some a
    | false => findRow r l
theorem findRow_crow {r : Nat} {a : CaseRow} (h : findRow r caseT = some a) : ∃ i, i < 336 ∧ a = crow i ∧ a.1 ≤ r ∧ r ≤ a.2.1 := by
  have key : ∀ (l : List CaseRow), findRow r l = some a → ∃ i, i < l.length ∧ a = l.getD i (0, 0, 0, 0, 0) ∧ a.1 ≤ r ∧ r ≤ a.2.1 := by
    intro l
    induction l with
    | nil => intro h; cases h
    | cons b l ih =>
      intro h
      unfold findRow at h
      cases hb : Nat.ble b.1 r && Nat.ble r b.2.1 with
      | true =>
        rw [hb] at h
        injection h with h
        subst h
        rw [Bool.and_eq_true, Nat.ble_eq, Nat.ble_eq] at hb
        exact ⟨0, by simp, rfl, hb⟩
      | false =>
        rw [hb] at h
        obtain ⟨i, h1, h2, h3⟩ := ih h
        exact ⟨i + 1, by simpa using h1, h2, h3⟩
  obtain ⟨i, h1, h2, h3⟩ := key caseT h
  exact ⟨i, by rw [caseT_len] at h1; exact h1, by rw [crow_list]; exact h2, h3⟩
def memN (r : Nat) : List (Nat × Nat) → Bool
  | [] => false
  | a :: l => match Nat.beq a.1 r with
    | true => true
    | false => memN r l
def onOrb (r : Nat) : Bool := memN r orbit
theorem orbit_len : orbit.length = 94 := by kernel_rfl
theorem memN_get : ∀ (l : List (Nat × Nat)) (i r : Nat), i < l.length → (l.getD i (0, 0)).1 = r → memN r l = true := by
  intro l
  induction l with
  | nil => intro i r hi; simp at hi
  | cons a l ih =>
    intro i r hi h
    unfold memN
    cases hb : Nat.beq a.1 r with
    | true => rfl
    | false =>
      cases i with
      | zero =>
        have h' : a.1 = r := h
        rw [h', Nat.beq_refl] at hb; cases hb
      | succ i => exact ih i r (by simpa using hi) h
theorem inOrb_on {r : Nat} (h : onOrb r = false) : inOrb (r : Int) = false := by
  cases hi : inOrb (r : Int) with
  | false => rfl
  | true =>
    unfold inOrb at hi
    rw [Bool.and_eq_true, decide_eq_true_iff, beq_iff_eq] at hi
    have := memN_get orbit (orbAt r) r (by rw [orbit_len]; exact hi.1) (by omega)
    unfold onOrb at h
    rw [h] at this; cases this
theorem memN_mem : ∀ (l : List (Nat × Nat)) (r : Nat), memN r l = true → ∃ a ∈ l, a.1 = r := by
  intro l
  induction l with
  | nil => intro r h; cases h
  | cons a l ih =>
    intro r h
    unfold memN at h
    cases hb : Nat.beq a.1 r with
    | true => exact ⟨a, List.mem_cons_self .., Nat.eq_of_beq_eq_true hb⟩
    | false =>
      rw [hb] at h
      obtain ⟨b, h1, h2⟩ := ih r h
      exact ⟨b, List.mem_cons_of_mem _ h1, h2⟩
def isN (x : Int) (r : Nat) : Bool := match x with
  | .ofNat z => Nat.beq z r
  | .negSucc _ => false
theorem isN_eq {x : Int} {r : Nat} (h : isN x r = true) : x = (r : Int) := by
  unfold isN at h
  cases x with
  | ofNat z => rw [Nat.eq_of_beq_eq_true h]; rfl
  | negSucc z => cases h
/-- Whether a rune of a row goes and comes back. -/
def okTo (a : CaseRow) (r : Nat) : Int → Bool
  | .ofNat y => Nat.ble y 1114111 && (Nat.beq y r || (Nat.ble 128 y && (!onOrb y && match findRow y caseT with
    | some b => isN (rstep b (y : Int)) r
    | none => false)))
  | .negSucc _ => false
def okAt (a : CaseRow) (r : Nat) : Bool := Nat.ble r 127 || (onOrb r || okTo a r (rstep a (r : Int)))
def okFrom (a : CaseRow) : Nat → Nat → Bool
  | 0, _ => true
  | n + 1, r => okAt a r && okFrom a n (r + 1)
def okRow (a : CaseRow) : Bool := okFrom a (a.2.1 - a.1 + 1) a.1
def okRows : List CaseRow → Bool
  | [] => true
  | a :: l => okRow a && okRows l
set_option maxRecDepth 100000 in
theorem rows0 : okRows ((caseT.drop 0).take 24) = true := by kernel_rfl
set_option maxRecDepth 100000 in
theorem rows1 : okRows ((caseT.drop 24).take 24) = true := by kernel_rfl
set_option maxRecDepth 100000 in
theorem rows2 : okRows ((caseT.drop 48).take 24) = true := by kernel_rfl
set_option maxRecDepth 100000 in
theorem rows3 : okRows ((caseT.drop 72).take 24) = true := by kernel_rfl
set_option maxRecDepth 100000 in
theorem rows4 : okRows ((caseT.drop 96).take 24) = true := by kernel_rfl
set_option maxRecDepth 100000 in
theorem rows5 : okRows ((caseT.drop 120).take 24) = true := by kernel_rfl
set_option maxRecDepth 100000 in
theorem rows6 : okRows ((caseT.drop 144).take 24) = true := by kernel_rfl
set_option maxRecDepth 100000 in
theorem rows7 : okRows ((caseT.drop 168).take 24) = true := by kernel_rfl
set_option maxRecDepth 100000 in
theorem rows8 : okRows ((caseT.drop 192).take 24) = true := by kernel_rfl
set_option maxRecDepth 100000 in
theorem rows9 : okRows ((caseT.drop 216).take 24) = true := by kernel_rfl
set_option maxRecDepth 100000 in
theorem rows10 : okRows ((caseT.drop 240).take 24) = true := by kernel_rfl
set_option maxRecDepth 100000 in
theorem rows11 : okRows ((caseT.drop 264).take 24) = true := by kernel_rfl
set_option maxRecDepth 100000 in
theorem rows12 : okRows ((caseT.drop 288).take 24) = true := by kernel_rfl
set_option maxRecDepth 100000 in
theorem rows13 : okRows ((caseT.drop 312).take 24) = true := by kernel_rfl
end Go.Proofs.YtknjgopapbemcaaGreatDoor
