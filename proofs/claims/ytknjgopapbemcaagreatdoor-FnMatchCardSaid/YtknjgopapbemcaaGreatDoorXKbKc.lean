/- Kb Kc: joined by merge.py for the claim. -/
import Derived.Test.YtknjgopapbemcaaGreatDoorXKa
/- Plain: unicode.SimpleFold comes back to every rune in four steps at most; the fold of two runes. -/
namespace Go.Proofs.YtknjgopapbemcaaGreatDoor
open Go.Lib (CaseRow caseA caseT lookupIdx convertR)
open Go.RowKit (wrap32)
set_option linter.unusedVariables false
set_option linter.unusedSimpArgs false
theorem okRows_get : ∀ (l : List CaseRow), okRows l = true → ∀ i, i < l.length → okRow (l.getD i (0, 0, 0, 0, 0)) = true := by
  intro l
  induction l with
  | nil => intro _ i hi; simp at hi
  | cons a l ih =>
    intro h i hi
    unfold okRows at h
    rw [Bool.and_eq_true] at h
    cases i with
    | zero => exact h.1
    | succ i => exact ih h.2 i (by simpa using hi)
theorem chunk {a i : Nat} (h : okRows ((caseT.drop a).take 24) = true) (h1 : a ≤ i) (h2 : i < a + 24) (h3 : i < 336) : okRow (crow i) = true := by
  have := okRows_get _ h (i - a) (by rw [List.length_take, List.length_drop, caseT_len]; omega)
  rw [crow_list]
  rw [List.getD_eq_getElem?_getD, List.getElem?_take, if_pos (by omega), List.getElem?_drop, show a + (i - a) = i by omega, ← List.getD_eq_getElem?_getD] at this
  exact this
theorem okRow_all {i : Nat} (h : i < 336) : okRow (crow i) = true := by
  rcases (by omega : i < 24 ∨ (24 ≤ i ∧ i < 48) ∨ (48 ≤ i ∧ i < 72) ∨ (72 ≤ i ∧ i < 96) ∨ (96 ≤ i ∧ i < 120) ∨ (120 ≤ i ∧ i < 144) ∨ (144 ≤ i ∧ i < 168) ∨ (168 ≤ i ∧ i < 192) ∨ (192 ≤ i ∧ i < 216) ∨ (216 ≤ i ∧ i < 240) ∨ (240 ≤ i ∧ i < 264) ∨ (264 ≤ i ∧ i < 288) ∨ (288 ≤ i ∧ i < 312) ∨ (312 ≤ i ∧ i < 336)) with h | h | h | h | h | h | h | h | h | h | h | h | h | h
  · exact chunk rows0 (by omega) (by omega) (by omega)
  · exact chunk rows1 (by omega) (by omega) (by omega)
  · exact chunk rows2 (by omega) (by omega) (by omega)
  · exact chunk rows3 (by omega) (by omega) (by omega)
  · exact chunk rows4 (by omega) (by omega) (by omega)
  · exact chunk rows5 (by omega) (by omega) (by omega)
  · exact chunk rows6 (by omega) (by omega) (by omega)
  · exact chunk rows7 (by omega) (by omega) (by omega)
  · exact chunk rows8 (by omega) (by omega) (by omega)
  · exact chunk rows9 (by omega) (by omega) (by omega)
  · exact chunk rows10 (by omega) (by omega) (by omega)
  · exact chunk rows11 (by omega) (by omega) (by omega)
  · exact chunk rows12 (by omega) (by omega) (by omega)
  · exact chunk rows13 (by omega) (by omega) (by omega)
theorem okFrom_at (a : CaseRow) : ∀ (n r : Nat), okFrom a n r = true → ∀ j, j < n → okAt a (r + j) = true := by
  intro n
  induction n with
  | zero => intro r _ j hj; omega
  | succ n ih =>
    intro r h j hj
    unfold okFrom at h
    rw [Bool.and_eq_true] at h
    cases j with
    | zero => exact h.1
    | succ j =>
      have := ih _ h.2 j (by omega)
      rw [show r + 1 + j = r + (j + 1) by omega] at this
      exact this
theorem ok_at {i r : Nat} (hi : i < 336) (h1 : (crow i).1 ≤ r) (h2 : r ≤ (crow i).2.1) : okAt (crow i) r = true := by
  have := okFrom_at (crow i) _ _ (okRow_all hi) (r - (crow i).1) (by omega)
  rw [show (crow i).1 + (r - (crow i).1) = r by omega] at this
  exact this
/-- Whether a rune goes round, and stays a rune. -/
def cycB (r : Int) : Bool := decide (0 ≤ sfr r) && decide (sfr r ≤ 1114111) && (decide (sit 1 r = r) || decide (sit 2 r = r) || decide (sit 3 r = r) || decide (sit 4 r = r))
theorem cycB_yes {r : Int} (h : cycB r = true) : Cyc r ∧ 0 ≤ sfr r ∧ sfr r ≤ 1114111 := by
  unfold cycB at h
  simp only [Bool.and_eq_true, Bool.or_eq_true, decide_eq_true_eq] at h
  refine ⟨?_, h.1.1, h.1.2⟩
  rcases h.2 with ((h | h) | h) | h
  · exact ⟨1, by omega, by omega, h⟩
  · exact ⟨2, by omega, by omega, h⟩
  · exact ⟨3, by omega, by omega, h⟩
  · exact ⟨4, by omega, by omega, h⟩
def allN : Nat → Bool
  | 0 => true
  | n + 1 => cycB ((n : Nat) : Int) && allN n
theorem allN_at : ∀ n, allN n = true → ∀ r, r < n → cycB ((r : Nat) : Int) = true := by
  intro n
  induction n with
  | zero => intro _ r hr; omega
  | succ n ih =>
    intro h r hr
    unfold allN at h
    rw [Bool.and_eq_true] at h
    rcases Nat.lt_or_ge r n with h1 | h1
    · exact ih h.2 r h1
    · obtain rfl : r = n := by omega
      exact h.1
set_option maxRecDepth 100000 in
theorem ascii_round : allN 128 = true := by kernel_rfl
def allO : List (Nat × Nat) → Bool
  | [] => true
  | a :: l => cycB ((a.1 : Nat) : Int) && allO l
theorem allO_at : ∀ l, allO l = true → ∀ a ∈ l, cycB ((a.1 : Nat) : Int) = true := by
  intro l
  induction l with
  | nil => intro _ a ha; simp at ha
  | cons b l ih =>
    intro h a ha
    unfold allO at h
    rw [Bool.and_eq_true] at h
    rcases List.mem_cons.1 ha with rfl | ha
    · exact h.1
    · exact ih h.2 a ha
set_option maxRecDepth 100000 in
theorem orbit_round : allO orbit = true := by kernel_rfl
theorem sfr_round {r : Int} (h0 : 0 ≤ r) (h1 : r ≤ 1114111) : Cyc r ∧ 0 ≤ sfr r ∧ sfr r ≤ 1114111 := by
  obtain ⟨n, rfl⟩ := Int.eq_ofNat_of_zero_le h0
  rcases Nat.lt_or_ge n 128 with h128 | h128
  · exact cycB_yes (allN_at 128 ascii_round n h128)
  cases ho : onOrb n with
  | true =>
    obtain ⟨a, ha, rfl⟩ := memN_mem _ _ ho
    exact cycB_yes (allO_at _ orbit_round a ha)
  | false =>
    have hio := inOrb_on ho
    cases hl : lookupIdx caseA (n : Int) (caseA.size + 1) 0 caseA.size with
    | none =>
      have hs : sfr (n : Int) = n := by
        unfold sfr
        rw [if_neg (by omega), hio, if_neg (by simp), hl]
      exact ⟨⟨1, by omega, by omega, hs⟩, by rw [hs]; exact h0, by rw [hs]; exact h1⟩
    | some i =>
      obtain ⟨hi, h2, h3⟩ := Go.Lib.lookupIdx_some caseA (n : Int) _ _ _ i hl
      rw [case_size] at hi
      have h2' : ((crow i).1 : Int) ≤ (n : Int) := by unfold crow; exact h2
      have h3' : (n : Int) ≤ ((crow i).2.1 : Int) := by unfold crow; exact h3
      have hrow := sfr_row (r := (n : Int)) (i := i) (by omega) hio hi h2' h3'
      have hok := ok_at (i := i) (r := n) hi (by omega) (by omega)
      unfold okAt at hok
      rw [ho, Bool.false_or, Bool.or_eq_true, Nat.ble_eq] at hok
      rcases hok with hok | hok
      · omega
      · cases hy : rstep (crow i) (n : Int) with
        | negSucc y => rw [hy] at hok; cases hok
        | ofNat y =>
          rw [hy] at hok hrow
          have hrow' : sfr (n : Int) = (y : Int) := hrow
          unfold okTo at hok
          rw [Bool.and_eq_true, Nat.ble_eq, Bool.or_eq_true] at hok
          refine ⟨?_, by omega, by omega⟩
          rcases hok.2 with h4 | h4
          · have := Nat.eq_of_beq_eq_true h4
            refine ⟨1, by omega, by omega, ?_⟩
            have e1 : sit 1 (n : Int) = sfr (n : Int) := rfl
            rw [e1, hrow', this]
          · rw [Bool.and_eq_true, Bool.and_eq_true, Nat.ble_eq, Bool.not_eq_true'] at h4
            obtain ⟨h5, h6, h7⟩ := h4
            cases hf : findRow y caseT with
            | none => rw [hf] at h7; cases h7
            | some b =>
              rw [hf] at h7
              obtain ⟨j, hj, hbj, h8, h9⟩ := findRow_crow hf
              rw [hbj] at h7 h8 h9
              clear hbj
              have h10 := sfr_row (r := (y : Int)) (i := j) (by omega) (inOrb_on h6) hj (by omega) (by omega)
              have h11 := isN_eq h7
              refine ⟨2, by omega, by omega, ?_⟩
              have e2 : sit 2 (n : Int) = sfr (sfr (n : Int)) := rfl
              rw [e2, hrow', h10]
              exact h11
theorem sit_range {r : Int} (h0 : 0 ≤ r) (h1 : r ≤ 1114111) : ∀ k, 0 ≤ sit k r ∧ sit k r ≤ 1114111
  | 0 => ⟨h0, h1⟩
  | k + 1 => (sfr_round (sit_range h0 h1 k).1 (sit_range h0 h1 k).2).2
/-- On from r, till it is lo again, or hi or more. -/
def orbGo : Nat → Int → Int → Int → Bool
  | 0, _, hi, r => decide (r = hi)
  | f + 1, lo, hi, r => if r ≠ lo ∧ r < hi then orbGo f lo hi (sfr r) else decide (r = hi)
/-- Whether two runes, lo below hi, fold to one. -/
def foldLt (lo hi : Int) : Bool :=
  if hi < 128 then decide (65 ≤ lo ∧ lo ≤ 90 ∧ hi = lo + 32) else orbGo 8 lo hi (sfr lo)
/-- Whether two runes fold to one. -/
def foldR (a b : Int) : Bool := if b = a then true else if b < a then foldLt b a else foldLt a b
end Go.Proofs.YtknjgopapbemcaaGreatDoor
/- Walk of unicode.SimpleFold. -/
namespace Go.Proofs.YtknjgopapbemcaaGreatDoor
open Go.RowKit
open Go.Lib (CaseRow caseA caseT lookupIdx convertR CaseTab CaseVar CaseOk)
set_option linter.unusedVariables false
set_option linter.unusedSimpArgs false
theorem orbSearch_end (r : Int) (f lo : Nat) : orbSearch r f lo lo = lo := by
  cases f with
  | zero => rfl
  | succ f => unfold orbSearch; rw [if_neg (by omega)]
def smallL : List Nat → Bool
  | [] => true
  | a :: l => Nat.ble a 65535 && smallL l
theorem smallL_at : ∀ l, smallL l = true → ∀ i, l.getD i 0 ≤ 65535 := by
  intro l
  induction l with
  | nil => intro _ i; simp
  | cons a l ih =>
    intro h i
    unfold smallL at h
    rw [Bool.and_eq_true, Nat.ble_eq] at h
    cases i with
    | zero => exact h.1
    | succ i => exact ih h.2 i
theorem afold_small (i : Nat) : afold.getD i 0 ≤ 65535 := smallL_at afold (by kernel_rfl) i
def smallO : List (Nat × Nat) → Bool
  | [] => true
  | a :: l => Nat.ble a.1 65535 && (Nat.ble a.2 65535 && smallO l)
theorem smallO_at : ∀ l, smallO l = true → ∀ i, (l.getD i (0, 0)).1 ≤ 65535 ∧ (l.getD i (0, 0)).2 ≤ 65535 := by
  intro l
  induction l with
  | nil => intro _ i; simp
  | cons a l ih =>
    intro h i
    unfold smallO at h
    rw [Bool.and_eq_true, Bool.and_eq_true, Nat.ble_eq, Nat.ble_eq] at h
    cases i with
    | zero => exact ⟨h.1, h.2.1⟩
    | succ i => exact ih h.2.2 i
theorem orbit_small (i : Nat) : (orbit.getD i (0, 0)).1 ≤ 65535 ∧ (orbit.getD i (0, 0)).2 ≤ 65535 := smallO_at orbit (by kernel_rfl) i
def okR : List CaseRow → Bool
  | [] => true
  | a :: l => Nat.ble a.1 1114111 && (Nat.ble a.2.1 1114111 && okR l)
theorem okR_at : ∀ l, okR l = true → ∀ i, i < l.length → (l.getD i (0, 0, 0, 0, 0)).1 ≤ 1114111 ∧ (l.getD i (0, 0, 0, 0, 0)).2.1 ≤ 1114111 := by
  intro l
  induction l with
  | nil => intro _ i hi; simp at hi
  | cons a l ih =>
    intro h i hi
    unfold okR at h
    rw [Bool.and_eq_true, Bool.and_eq_true, Nat.ble_eq, Nat.ble_eq] at h
    cases i with
    | zero => exact ⟨h.1, h.2.1⟩
    | succ i => exact ih h.2.2 i (by simpa using hi)
theorem crow_small {i : Nat} (h : i < 336) : (crow i).1 ≤ 1114111 ∧ (crow i).2.1 ≤ 1114111 := by
  rw [crow_list]; exact okR_at caseT (by kernel_rfl) i (by rw [caseT_len]; exact h)
theorem caseA_ok : CaseOk caseA := fun i hi => by
  rw [case_size] at hi
  have := crow_small hi
  have h1 : (crow i).1 < 2147483648 ∧ (crow i).2.1 < 2147483648 := by omega
  unfold crow at h1
  exact h1
/-- The search and the rest: what it comes to. -/
theorem sfr_low {n : Nat} (h : n < 128) : sfr (n : Int) = ((afold.getD n 0 : Nat) : Int) := by
  unfold sfr; rw [if_pos (by omega)]; rfl
theorem sfr_orb {r : Int} {lo : Nat} (h : 128 ≤ r) (ho : orbAt r = lo) (hl : lo < 94) (he : ((orbit.getD lo (0, 0)).1 : Int) = r) : sfr r = ((orbit.getD lo (0, 0)).2 : Nat) := by
  have hi : inOrb r = true := by unfold inOrb; rw [ho, decide_eq_true hl, Bool.true_and, beq_iff_eq]; exact he
  unfold sfr; rw [if_neg (by omega), hi, if_pos rfl, ho]
theorem notOrb {r : Int} {lo : Nat} (ho : orbAt r = lo) (hn : ¬ (lo < 94 ∧ ((orbit.getD lo (0, 0)).1 : Int) = r)) : inOrb r = false := by
  unfold inOrb
  rw [ho]
  by_cases hl : lo < 94
  · rw [decide_eq_true hl, Bool.true_and]; exact beq_eq_false_iff_ne.2 (fun e => hn ⟨hl, e⟩)
  · rw [decide_eq_false hl, Bool.false_and]
theorem sfr_some {r : Int} {lo i : Nat} (h : 128 ≤ r) (ho : orbAt r = lo) (hn : ¬ (lo < 94 ∧ ((orbit.getD lo (0, 0)).1 : Int) = r)) (hl : lookupIdx caseA r (caseA.size + 1) 0 caseA.size = some i) : sfr r = rstep (crow i) r := by
  unfold sfr; rw [if_neg (by omega), notOrb ho hn, if_neg (by simp), hl]
theorem sfr_none {r : Int} {lo : Nat} (h : 128 ≤ r) (ho : orbAt r = lo) (hn : ¬ (lo < 94 ∧ ((orbit.getD lo (0, 0)).1 : Int) = r)) (hl : lookupIdx caseA r (caseA.size + 1) 0 caseA.size = none) : sfr r = r := by
  unfold sfr; rw [if_neg (by omega), notOrb ho hn, if_neg (by simp), hl]
/-- The search so far. -/
structure OrbI (r : Int) (lo hi : Nat) : Prop where
  le : lo ≤ hi
  h94 : hi ≤ 94
  eq : ∃ f, hi - lo < f ∧ orbAt r = orbSearch r f lo hi
theorem OrbI.done {r : Int} {lo : Nat} (h : OrbI r lo lo) : orbAt r = lo := by
  obtain ⟨f, h1, h2⟩ := h.eq
  rw [h2, orbSearch_end]
theorem OrbI.up {r : Int} {lo hi m : Nat} (h : OrbI r lo hi) (hl : lo < hi) (hm : m = (lo + hi) / 2) (hc : ((orbit.getD m (0, 0)).1 : Int) < r) : OrbI r (m + 1) hi := by
  obtain ⟨f, h1, h2⟩ := h.eq
  obtain ⟨g, rfl⟩ : ∃ g, f = g + 1 := ⟨f - 1, by omega⟩
  refine ⟨by omega, h.h94, g, by omega, ?_⟩
  rw [h2]
  rw [orbSearch, if_pos hl, ← hm, if_pos hc]
theorem OrbI.down {r : Int} {lo hi m : Nat} (h : OrbI r lo hi) (hl : lo < hi) (hm : m = (lo + hi) / 2) (hc : ¬ ((orbit.getD m (0, 0)).1 : Int) < r) : OrbI r lo m := by
  obtain ⟨f, h1, h2⟩ := h.eq
  obtain ⟨g, rfl⟩ : ∃ g, f = g + 1 := ⟨f - 1, by omega⟩
  have := h.h94
  refine ⟨by omega, by omega, g, by omega, ?_⟩
  rw [h2]
  rw [orbSearch, if_pos hl, ← hm, if_neg hc]
set_option maxHeartbeats 2000000 in
set_option maxRecDepth 100000 in
theorem sf_any (r : Int) (w : World) (hW : Wd w) (h0 : 0 ≤ r) (h1 : r ≤ 1114111) : Calls Tryz.prog 26 #[.int .i32 r] w fun e w' => e = .returned (.int .i32 (sfr r)) ∧ Below w.heap.size w w' := by
  have hb0 : decide (r < 0) = false := decide_eq_false (by omega)
  have hb1 : decide ((1114111 : Int) < r) = false := decide_eq_false (by omega)
  by_cases h128 : r < 128
  · have hb2 : decide (r < 128) = true := decide_eq_true h128
    obtain ⟨n, rfl⟩ := Int.eq_ofNat_of_zero_le h0
    have hn : n < 128 := by omega
    have hcell := hW.fo.a n hn
    have HR := Hd.mk (sfr_low hn)
    have hsm := afold_small n
    obtain ⟨x, hx⟩ : ∃ x, x = afold.getD n 0 := ⟨_, rfl⟩
    rw [← hx] at hcell HR hsm
    clear hx hW
    go_enter Tryz.func26, Tryz.ntmps26
    go_wp2
    go_ret
    exact ⟨by rw [HR.out]; rfl, Below.refl _ _⟩
  · have hb2 : decide (r < 128) = false := decide_eq_false h128
    have h128' : 128 ≤ r := by omega
    obtain ⟨P, o, cc, hPw, hg1, hcc, hO⟩ := hW.fo.o
    have HO := Hd.mk hO
    obtain ⟨R, oR, cap, hg2, hT⟩ := hW.cv
    have HT := Hd.mk hT
    obtain ⟨N, hN⟩ : ∃ N, N = caseA.size := ⟨_, rfl⟩
    rw [← hN] at hg2
    have HNN := Hd.mk hN
    clear hO hT hW h128 hN
    go_enter Tryz.func26, Tryz.ntmps26
    go_wp2_with fail
    go_loopg [3, 4, 5] 94 (fun mm v3 v4 v5 wr => ∃ lo hi : Nat, v3 = .int .i64 (lo : Int) ∧ v4 = .int .i64 (hi : Int) ∧ hi - lo ≤ mm ∧ OrbI r lo hi ∧ w = wr)
    case atStart => exact ⟨0, 94, rfl, rfl, by omega, ⟨by omega, by omega, 100, by omega, rfl⟩, rfl⟩
    case round =>
      obtain ⟨lo, hi, rfl, rfl, hmm, HI, rfl⟩ := hrel
      have hle := HI.le
      have h94 := HI.h94
      have HII := Hd.mk HI
      clear HI
      by_cases hlt : lo < hi
      · obtain ⟨m, hm⟩ : ∃ m, m = (lo + hi) / 2 := ⟨_, rfl⟩
        have hmd : ((lo : Int) + (hi : Int)) / 2 = (m : Int) := by omega
        have hm94 : (m : Int) < 94 := by omega
        have hm0 : (0 : Int) ≤ (m : Int) := by omega
        have hmlo : lo ≤ m := by omega
        have hmhi : m < hi := by omega
        obtain ⟨c1, c2⟩ := HO.out m (by omega)
        have hsm := (orbit_small m).1
        have HM := Hd.mk hm
        obtain ⟨x, hx⟩ : ∃ x, x = (orbit.getD m (0, 0)).1 := ⟨_, rfl⟩
        rw [← hx] at c1 hsm
        have HX := Hd.mk hx
        clear hx c2 hm
        obtain ⟨g2, rfl⟩ : ∃ g2, gk = g2 + 1 := ⟨gk - 1, by omega⟩
        by_cases hxr : (x : Int) < r
        · have hxb : decide ((x : Int) < r) = true := decide_eq_true hxr
          have HN : Hd (OrbI r (m + 1) hi) := ⟨HII.out.up hlt HM.out (by rw [← HX.out]; exact hxr)⟩
          go_wp2_with fail
          go_roundg g2
          case measure => omega
          case rel => exact ⟨m + 1, hi, by go_num, rfl, by omega, HN.out, rfl⟩
        · have hxb : decide ((x : Int) < r) = false := decide_eq_false hxr
          have HN : Hd (OrbI r lo m) := ⟨HII.out.down hlt HM.out (by rw [← HX.out]; exact hxr)⟩
          go_wp2_with fail
          go_roundg g2
          case measure => omega
          case rel => exact ⟨lo, m, rfl, rfl, by omega, HN.out, rfl⟩
      · obtain rfl : lo = hi := by omega
        have HD := Hd.mk HII.out.done
        clear hmm HII hle
        have hlo0 : (0 : Int) ≤ (lo : Int) := by omega
        by_cases hor : lo < 94 ∧ ((orbit.getD lo (0, 0)).1 : Int) = r
        · obtain ⟨hl, he⟩ := hor
          have hli : (lo : Int) < 94 := by omega
          have HR := Hd.mk (sfr_orb h128' HD.out hl he)
          obtain ⟨c1, c2⟩ := HO.out lo hl
          have hsm := orbit_small lo
          obtain ⟨x, hx⟩ : ∃ x, x = (orbit.getD lo (0, 0)).1 := ⟨_, rfl⟩
          obtain ⟨y, hy⟩ : ∃ y, y = (orbit.getD lo (0, 0)).2 := ⟨_, rfl⟩
          rw [← hx] at c1 he hsm
          rw [← hy] at c2 HR hsm
          have hxr : ((x : Int) == r) = true := beq_iff_eq.2 he
          obtain ⟨s1, s2⟩ := hsm
          clear hx hy he
          go_wp2_with fail
          go_ret
          exact ⟨by rw [HR.out]; rfl, Below.refl _ _⟩
        · have HNO := Hd.mk hor
          clear hor
          go_upto_region 12 with (fail)
          go_cut [57] from 44 to 57 (fun v57 wc => v57 = .bool false ∧ w = wc)
          case first =>
            by_cases hl : lo < 94
            · have hli : (lo : Int) < 94 := by omega
              obtain ⟨c1, c2⟩ := HO.out lo hl
              have hsm := orbit_small lo
              have hne : ¬ ((orbit.getD lo (0, 0)).1 : Int) = r := fun e => HNO.out ⟨hl, e⟩
              obtain ⟨x, hx⟩ : ∃ x, x = (orbit.getD lo (0, 0)).1 := ⟨_, rfl⟩
              rw [← hx] at c1 hne hsm
              have hxr : ((x : Int) == r) = false := beq_eq_false_iff_ne.2 hne
              obtain ⟨s1, s2⟩ := hsm
              clear hx hne
              go_wp2_with fail
              go_meet
              exact ⟨rfl, rfl⟩
            · have hli : ¬ (lo : Int) < 94 := by omega
              go_wp2_with fail
              go_meet
              exact ⟨rfl, rfl⟩
          case rest =>
            obtain ⟨rfl, rfl⟩ := hcut
            have HLK : Hd (Calls Tryz.prog 45 #[.int .i32 r, .slice (some ⟨R, oR, none⟩) N cap] w fun e w' => e = .returned (match lookupIdx caseA r (caseA.size + 1) 0 caseA.size with | some i => .pointer (some ⟨R, oR + i * 5, none⟩) | none => .pointer none) ∧ w' = w) := ⟨by
              rw [HNN.out]; exact Tryz.unicode_lookupCaseRange caseA R oR cap r w HT.out caseA_ok (by rw [case_size]; omega)⟩
            cases hlk : lookupIdx caseA r (caseA.size + 1) 0 caseA.size with
            | none =>
              rw [hlk] at HLK
              have HR := Hd.mk (sfr_none h128' HD.out HNO.out hlk)
              clear hlk
              go_wp2_with fail
              refine HLK.out.mono ?_
              rintro e w' ⟨rfl, rfl⟩
              go_wp2_with fail
              go_ret
              exact ⟨by rw [HR.out]; rfl, Below.refl _ _⟩
            | some i =>
              rw [hlk] at HLK
              have HR := Hd.mk (sfr_some h128' HD.out HNO.out hlk)
              obtain ⟨hi, h2, h3⟩ := Go.Lib.lookupIdx_some caseA r _ _ _ i hlk
              have hi336 : i < 336 := by rw [case_size] at hi; exact hi
              have hsm := crow_small hi336
              have HCV : Hd (∀ (c : Nat) (W : World) (q : Nat), c < 3 → W = w.drewN q → Calls Tryz.prog 46 #[.int .i64 (c : Int), .int .i32 r, .pointer (some ⟨R, oR + i * 5, none⟩)] W fun e w' => e = .returned (.int .i32 (wrap32 (convertR c r (crow i)))) ∧ ∃ q, w' = W.drewN q) := ⟨fun c W q hc hW => by
                subst hW
                exact Tryz.unicode_convertCase c hc r R (oR + i * 5) (crow i) _ h2 h3 (by omega) (HT.out i hi).1 (Go.Lib.CaseTab.delta HT.out i hi c hc)⟩
              obtain ⟨l1, hl1⟩ : ∃ l1, l1 = wrap32 (convertR 1 r (crow i)) := ⟨_, rfl⟩
              obtain ⟨l0, hl0⟩ : ∃ l0, l0 = wrap32 (convertR 0 r (crow i)) := ⟨_, rfl⟩
              have HR2 : Hd (sfr r = if l1 = r then l0 else l1) := ⟨by rw [HR.out, hl1, hl0]; rfl⟩
              have HC1 : Hd (Calls Tryz.prog 46 #[.int .i64 1, .int .i32 r, .pointer (some ⟨R, oR + i * 5, none⟩)] w fun e w' => e = .returned (.int .i32 l1) ∧ ∃ q, w' = w.drewN q) := ⟨by rw [hl1]; exact HCV.out 1 w 0 (by omega) rfl⟩
              have HC0 : Hd (∀ q, Calls Tryz.prog 46 #[.int .i64 0, .int .i32 r, .pointer (some ⟨R, oR + i * 5, none⟩)] (w.drewN q) fun e w' => e = .returned (.int .i32 l0) ∧ ∃ q2, w' = (w.drewN q).drewN q2) := ⟨fun q => by rw [hl0]; exact HCV.out 0 _ q (by omega) rfl⟩
              clear hlk hi h2 h3 hsm HCV hl1 hl0 hi336
              by_cases hlr : l1 = r
              · have hbn : (l1 != r) = false := by rw [bne, beq_iff_eq.2 hlr]; rfl
                have HLR := Hd.mk hlr
                clear hlr
                go_wp2_with fail
                refine HLK.out.mono ?_
                rintro e w' ⟨rfl, rfl⟩
                go_wp2_with fail
                refine HC1.out.mono ?_
                rintro e w' ⟨rfl, q, rfl⟩
                go_wp2_with fail
                refine (HC0.out q).mono ?_
                rintro e w' ⟨rfl, q2, rfl⟩
                go_wp2_with fail
                go_ret
                exact ⟨by rw [HR2.out, if_pos HLR.out]; rfl, below_drewN (Below.refl _ _) _⟩
              · have hbn : (l1 != r) = true := by rw [bne, beq_eq_false_iff_ne.2 hlr]; rfl
                have HLR := Hd.mk hlr
                clear hlr
                go_wp2_with fail
                refine HLK.out.mono ?_
                rintro e w' ⟨rfl, rfl⟩
                go_wp2_with fail
                refine HC1.out.mono ?_
                rintro e w' ⟨rfl, q, rfl⟩
                go_wp2_with fail
                go_ret
                exact ⟨by rw [HR2.out, if_neg HLR.out]; rfl, below_drewN (Below.refl _ _) _⟩
end Go.Proofs.YtknjgopapbemcaaGreatDoor
