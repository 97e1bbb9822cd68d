/- Ti Tj: joined by merge.py for the claim. -/
import Derived.Test.YtknjgopapbemcaaGreatDoorXTh
/- Walk of the reference's Match. -/
namespace Go.Proofs.YtknjgopapbemcaaGreatDoor
open Go.RowKit
set_option linter.unusedVariables false
set_option linter.unusedSimpArgs false
theorem said_any {k n : Int} {s t : ByteArray} (h : KText k s n t) (w : World) : Calls Tryz.prog 10 #[.agg #[.int .i64 k, .string s, .int .i64 n]] w fun e w' => e = .returned (.string t) ∧ Below w.heap.size w w' := by
  have h1 := h.n1
  have h2 := h.n2
  rcases h.kind with ⟨rfl, rfl⟩ | ⟨rfl, h3⟩
  · refine (said_text t n w).mono ?_
    rintro e w' ⟨⟨u, rfl, hu⟩, hb⟩
    exact ⟨by rw [tx_inj hu], hb⟩
  · refine (said_int s n w h1 h2).mono ?_
    rintro e w' ⟨⟨u, rfl, hu⟩, hb⟩
    exact ⟨by rw [tx_inj (hu.trans h3.symm)], hb⟩
/-- A number and whether it is one. -/
structure NumS (A : Option Nat) (X : Value) (p : Bool) : Prop where
  p : p = A.isSome
  x : ∀ a, A = some a → X = .float .f64 a
theorem number_s (s : ByteArray) (w : World) (hW : Wd w) (hs : s.size ≤ 400) : Calls Tryz.prog 12 #[.string s] w fun e w' => (∃ X p, e = .returned (.tuple #[X, .bool p]) ∧ NumS (pf (tx s)) X p) ∧ Below w.heap.size w w' := by
  refine (number_any s w hW.gl hW.er hs).mono ?_
  rintro e w' ⟨h, hb⟩
  refine ⟨?_, hb⟩
  generalize pf (tx s) = A at *
  cases A with
  | some a => exact ⟨_, _, h, rfl, fun b hb => by injection hb with hb; rw [hb]⟩
  | none =>
    obtain ⟨x, hx⟩ := h
    exact ⟨_, _, hx, rfl, fun b hb => by cases hb⟩
theorem KText.t400 {k n : Int} {s t : ByteArray} (h : KText k s n t) : t.size ≤ 400 := h.v.size
set_option maxHeartbeats 2000000 in
set_option maxRecDepth 100000 in
theorem smatch_any {EF : ByteArray → ByteArray → Bool} (hEF : EFok EF) (c s t : ByteArray) (num op k n : Int) (fold : Bool) (w : World) (hW : Wd w) (hk : KText k s n t) (hc : c.size ≤ 400) :
    Calls Tryz.prog 6 #[.string c, .agg #[.int .i64 num, .int .i64 op, .int .i64 k, .string s, .int .i64 n, .bool fold]] w fun e w' => e = .returned (.bool (mAns EF c t fold op)) ∧ Below w.heap.size w w' := by
  have ht := hk.t400
  obtain ⟨A, hA⟩ : ∃ A, A = pf (tx c) := ⟨_, rfl⟩
  obtain ⟨B, hB⟩ : ∃ B, B = pf (tx t) := ⟨_, rfl⟩
  have HS := Hd.mk (said_any hk)
  have HNC : Hd (∀ W, Below w.heap.size w W → Calls Tryz.prog 12 #[.string c] W fun e w' => (∃ X p, e = .returned (.tuple #[X, .bool p]) ∧ NumS A X p) ∧ Below W.heap.size W w') := ⟨fun W hb => by rw [hA]; exact number_s c W (hW.below hb) hc⟩
  have HNT : Hd (∀ W, Below w.heap.size w W → Calls Tryz.prog 12 #[.string t] W fun e w' => (∃ X p, e = .returned (.tuple #[X, .bool p]) ∧ NumS B X p) ∧ Below W.heap.size W w') := ⟨fun W hb => by rw [hB]; exact number_s t W (hW.below hb) ht⟩
  have HL : Hd (∀ s W, s.size ≤ 400 → Below w.heap.size w W → Calls Tryz.prog 11 #[.string s] W fun e w'' => e = .returned (.string (low s)) ∧ Below W.heap.size W w'') := ⟨fun s W hs hb => toLower_any s W (hW.below hb) hs⟩
  have HEF : Hd (∀ W, Below w.heap.size w W → Calls Tryz.prog 13 #[.string c, .string t] W fun e w'' => e = .returned (.bool (EF c t)) ∧ Below W.heap.size W w'') := ⟨fun W hb => hEF c t W (hW.below hb) hc ht⟩
  have HAB := Hd.mk (And.intro hA hB)
  clear hA hB hW hk hEF
  go_enter Tryz.func6, Tryz.ntmps6
  go_upto_region 1 with (fail)
  obtain ⟨w1, hw1⟩ : ∃ w1, w1 = w.alloc (.cells #[.int .i64 num, .int .i64 op, .int .i64 k, .string s, .int .i64 n, .bool fold] 25) := ⟨_, rfl⟩
  rw [← hw1]
  obtain ⟨b, hb⟩ : ∃ b, b = w.heap.size := ⟨_, rfl⟩
  have e1 : w1.heap[w.heap.size]? = some (.cells #[.int .i64 num, .int .i64 op, .int .i64 k, .string s, .int .i64 n, .bool fold] 25 (0, 0)) := by rw [hw1]; exact heap_alloc_new _ _
  have HB1 : Hd (Below w.heap.size w w1) := ⟨by rw [hw1]; exact (Below.refl _ _).alloc (Nat.le_refl _) _⟩
  have hbl : w.heap.size < w1.heap.size := by rw [hw1]; simp
  have c2 : w1.cell? ⟨w.heap.size, 2, none⟩ = some (.int .i64 k) := by simp [World.cell?, e1]
  have c3 : w1.cell? ⟨w.heap.size, 3, none⟩ = some (.string s) := by simp [World.cell?, e1]
  have c4 : w1.cell? ⟨w.heap.size, 4, none⟩ = some (.int .i64 n) := by simp [World.cell?, e1]
  have HK : Hd (∀ W, Below w1.heap.size w1 W → W.cell? ⟨w.heap.size, 1, none⟩ = some (.int .i64 op) ∧ W.cell? ⟨w.heap.size, 5, none⟩ = some (.bool fold)) := ⟨fun W hbw => by
    rw [hbw.cell (p := ⟨w.heap.size, 1, none⟩) hbl, hbw.cell (p := ⟨w.heap.size, 5, none⟩) hbl]
    exact ⟨by simp [World.cell?, e1], by simp [World.cell?, e1]⟩⟩
  have HKB : Hd (∀ W, Below w1.heap.size w1 W → Below w.heap.size w W) := ⟨fun W hbw => HB1.out.trans (hbw.mono HB1.out.size)⟩
  rw [← hb] at c2 c3 c4 HK ⊢
  clear hw1 e1 hbl hb
  go_wp2_with fail
  refine (HS.out _).mono ?_
  rintro e w2 ⟨rfl, hb2⟩
  have HB2 := Hd.mk hb2
  obtain ⟨d1, d5⟩ := HK.out w2 hb2
  clear hb2 c2 c3 c4 d1
  go_upto_if 19 with (fail)
  go_cut [6, 7] from 19 to 23 (fun v6 v7 wc => v6 = .string (if fold then low c else c) ∧ v7 = .string (if fold then low t else t) ∧ Below w1.heap.size w1 wc)
  case first =>
    cases fold
    · go_wp2
      go_meet
      exact ⟨rfl, rfl, HB2.out⟩
    · go_wp2_with fail
      refine (HL.out _ _ hc (HB1.out.trans (HB2.out.mono HB1.out.size))).mono ?_
      rintro e w3 ⟨rfl, hb⟩
      have HB3 := Hd.mk (HB2.out.trans (hb.mono HB2.out.size))
      clear hb
      go_wp2_with fail
      refine (HL.out _ _ ht (HB1.out.trans (HB3.out.mono HB1.out.size))).mono ?_
      rintro e w4 ⟨rfl, hb⟩
      have HB4 := Hd.mk (HB3.out.trans (hb.mono HB3.out.size))
      clear hb
      go_wp2_with fail
      go_meet
      exact ⟨rfl, rfl, HB4.out⟩
  case rest =>
    obtain ⟨rfl, rfl, hb3⟩ := hcut
    have HB3 := Hd.mk hb3
    clear hb3 d5
    obtain ⟨la, hla⟩ : ∃ la, la = if fold then low c else c := ⟨_, rfl⟩
    obtain ⟨lt, hlt⟩ : ∃ lt, lt = if fold then low t else t := ⟨_, rfl⟩
    rw [← hla, ← hlt]
    have hsa : la.size ≤ 1600 := by rw [hla]; split; exact low_size c hc; omega
    have hsb : lt.size ≤ 1600 := by rw [hlt]; split; exact low_size t ht; omega
    have HLL := Hd.mk (And.intro hla hlt)
    clear hla hlt
    go_wp2_with fail
    refine (HNC.out _ (HKB.out _ HB3.out)).mono ?_
    rintro e w4 ⟨⟨X, p, rfl, hX⟩, hb⟩
    have HX := Hd.mk hX
    have HB4 := Hd.mk (HB3.out.trans (hb.mono HB3.out.size))
    clear hb hX
    go_wp2_with fail
    refine (HNT.out _ (HKB.out _ HB4.out)).mono ?_
    rintro e w5 ⟨⟨Y, q, rfl, hY⟩, hb⟩
    have HY := Hd.mk hY
    have HB5 := Hd.mk (HB4.out.trans (hb.mono HB4.out.size))
    clear hb hY
    have d5 := (HK.out _ HB5.out).2
    go_upto_if 38 with (fail)
    go_cut [12] from 37 to 41 (fun v12 wc => v12 = .bool (if fold then EF c t else decide (c = t)) ∧ Below w1.heap.size w1 wc)
    case first =>
      cases fold
      · go_wp2
        go_meet
        exact ⟨congrArg Value.bool (seq_iff _ _), HB5.out⟩
      · go_wp2_with fail
        refine (HEF.out _ (HKB.out _ HB5.out)).mono ?_
        rintro e w6 ⟨rfl, hb⟩
        have HB6 := Hd.mk (HB5.out.trans (hb.mono HB5.out.size))
        clear hb
        go_wp2_with fail
        go_meet
        exact ⟨rfl, HB6.out⟩
    case rest =>
      obtain ⟨rfl, hb6⟩ := hcut
      rename_i w6
      obtain ⟨d1, _⟩ := HK.out _ hb6
      have HBW := Hd.mk (HKB.out _ hb6)
      clear hb6 d5
      obtain ⟨S, hS⟩ : ∃ S, S = if fold then EF c t else decide (c = t) := ⟨_, rfl⟩
      rw [← hS]
      have HSS := Hd.mk hS
      clear hS
      by_cases h0 : op = 0
      · subst h0
        go_wp2
        go_ret
        exact ⟨ret_bool (by rw [HSS.out]; rfl), HBW.out⟩
      by_cases h1 : op = 1
      · subst h1
        go_wp2
        go_ret
        exact ⟨ret_bool (by rw [HSS.out]; rfl), HBW.out⟩
      by_cases h2 : op = 2
      · subst h2
        have hp := HX.out.p
        have hq := HY.out.p
        have hx := HX.out.x
        have hy := HY.out.x
        cases A with
        | none =>
          have hp' : p = false := hp
          subst hp'
          clear hp hq hx hy
          have HA : Hd (mAns EF c t fold 2 = false) := ⟨by show numB 2 (pf (tx c)) (pf (tx t)) = false; rw [← HAB.out.1]; rfl⟩
          go_wp2
          go_ret
          exact ⟨ret_bool (by rw [HA.out]), HBW.out⟩
        | some a =>
          have hp' : p = true := hp
          subst hp'
          obtain rfl := hx a rfl
          cases B with
          | none =>
            have hq' : q = false := hq
            subst hq'
            clear hp hq hx hy
            have HA : Hd (mAns EF c t fold 2 = false) := ⟨by show numB 2 (pf (tx c)) (pf (tx t)) = false; rw [← HAB.out.1, ← HAB.out.2]; rfl⟩
            go_wp2
            go_ret
            exact ⟨ret_bool (by rw [HA.out]), HBW.out⟩
          | some b2 =>
            have hq' : q = true := hq
            subst hq'
            obtain rfl := hy b2 rfl
            clear hp hq hx hy
            have HA : Hd (mAns EF c t fold 2 = fcmp 2 a b2) := ⟨by show numB 2 (pf (tx c)) (pf (tx t)) = _; rw [← HAB.out.1, ← HAB.out.2]; rfl⟩
            go_wp2
            go_ret
            exact ⟨ret_bool (by rw [HA.out]; rfl), HBW.out⟩
      by_cases h3 : op = 3
      · subst h3
        have hp := HX.out.p
        have hq := HY.out.p
        have hx := HX.out.x
        have hy := HY.out.x
        cases A with
        | none =>
          have hp' : p = false := hp
          subst hp'
          clear hp hq hx hy
          have HA : Hd (mAns EF c t fold 3 = false) := ⟨by show numB 3 (pf (tx c)) (pf (tx t)) = false; rw [← HAB.out.1]; rfl⟩
          go_wp2
          go_ret
          exact ⟨ret_bool (by rw [HA.out]), HBW.out⟩
        | some a =>
          have hp' : p = true := hp
          subst hp'
          obtain rfl := hx a rfl
          cases B with
          | none =>
            have hq' : q = false := hq
            subst hq'
            clear hp hq hx hy
            have HA : Hd (mAns EF c t fold 3 = false) := ⟨by show numB 3 (pf (tx c)) (pf (tx t)) = false; rw [← HAB.out.1, ← HAB.out.2]; rfl⟩
            go_wp2
            go_ret
            exact ⟨ret_bool (by rw [HA.out]), HBW.out⟩
          | some b2 =>
            have hq' : q = true := hq
            subst hq'
            obtain rfl := hy b2 rfl
            clear hp hq hx hy
            have HA : Hd (mAns EF c t fold 3 = fcmp 3 a b2) := ⟨by show numB 3 (pf (tx c)) (pf (tx t)) = _; rw [← HAB.out.1, ← HAB.out.2]; rfl⟩
            go_wp2
            go_ret
            exact ⟨ret_bool (by rw [HA.out]; rfl), HBW.out⟩
      by_cases h4 : op = 4
      · subst h4
        have hp := HX.out.p
        have hq := HY.out.p
        have hx := HX.out.x
        have hy := HY.out.x
        cases A with
        | none =>
          have hp' : p = false := hp
          subst hp'
          clear hp hq hx hy
          have HA : Hd (mAns EF c t fold 4 = false) := ⟨by show numB 4 (pf (tx c)) (pf (tx t)) = false; rw [← HAB.out.1]; rfl⟩
          go_wp2
          go_ret
          exact ⟨ret_bool (by rw [HA.out]), HBW.out⟩
        | some a =>
          have hp' : p = true := hp
          subst hp'
          obtain rfl := hx a rfl
          cases B with
          | none =>
            have hq' : q = false := hq
            subst hq'
            clear hp hq hx hy
            have HA : Hd (mAns EF c t fold 4 = false) := ⟨by show numB 4 (pf (tx c)) (pf (tx t)) = false; rw [← HAB.out.1, ← HAB.out.2]; rfl⟩
            go_wp2
            go_ret
            exact ⟨ret_bool (by rw [HA.out]), HBW.out⟩
          | some b2 =>
            have hq' : q = true := hq
            subst hq'
            obtain rfl := hy b2 rfl
            clear hp hq hx hy
            have HA : Hd (mAns EF c t fold 4 = fcmp 4 a b2) := ⟨by show numB 4 (pf (tx c)) (pf (tx t)) = _; rw [← HAB.out.1, ← HAB.out.2]; rfl⟩
            go_wp2
            go_ret
            exact ⟨ret_bool (by rw [HA.out]; rfl), HBW.out⟩
      by_cases h5 : op = 5
      · subst h5
        have hp := HX.out.p
        have hq := HY.out.p
        have hx := HX.out.x
        have hy := HY.out.x
        cases A with
        | none =>
          have hp' : p = false := hp
          subst hp'
          clear hp hq hx hy
          have HA : Hd (mAns EF c t fold 5 = false) := ⟨by show numB 5 (pf (tx c)) (pf (tx t)) = false; rw [← HAB.out.1]; rfl⟩
          go_wp2
          go_ret
          exact ⟨ret_bool (by rw [HA.out]), HBW.out⟩
        | some a =>
          have hp' : p = true := hp
          subst hp'
          obtain rfl := hx a rfl
          cases B with
          | none =>
            have hq' : q = false := hq
            subst hq'
            clear hp hq hx hy
            have HA : Hd (mAns EF c t fold 5 = false) := ⟨by show numB 5 (pf (tx c)) (pf (tx t)) = false; rw [← HAB.out.1, ← HAB.out.2]; rfl⟩
            go_wp2
            go_ret
            exact ⟨ret_bool (by rw [HA.out]), HBW.out⟩
          | some b2 =>
            have hq' : q = true := hq
            subst hq'
            obtain rfl := hy b2 rfl
            clear hp hq hx hy
            have HA : Hd (mAns EF c t fold 5 = fcmp 5 a b2) := ⟨by show numB 5 (pf (tx c)) (pf (tx t)) = _; rw [← HAB.out.1, ← HAB.out.2]; rfl⟩
            go_wp2
            go_ret
            exact ⟨ret_bool (by rw [HA.out]; rfl), HBW.out⟩
      by_cases h6 : op = 6
      · subst h6
        have HA : Hd (mAns EF c t fold 6 = holdsB la lt) := ⟨by rw [HLL.out.1, HLL.out.2]; rfl⟩
        have HC := Hd.mk (fun W => has_any la lt W (by omega) (by omega))
        go_wp2_with fail
        refine (HC.out _).mono ?_
        rintro e w7 ⟨rfl, rfl⟩
        go_wp2_with fail
        go_ret
        exact ⟨ret_bool (by rw [HA.out]), HBW.out⟩
      by_cases h7 : op = 7
      · subst h7
        have HA : Hd (mAns EF c t fold 7 = !holdsB la lt) := ⟨by rw [HLL.out.1, HLL.out.2]; rfl⟩
        have HC := Hd.mk (fun W => has_any la lt W (by omega) (by omega))
        go_wp2_with fail
        refine (HC.out _).mono ?_
        rintro e w7 ⟨rfl, rfl⟩
        go_wp2_with fail
        go_ret
        exact ⟨ret_bool (by rw [HA.out]), HBW.out⟩
      by_cases h8 : op = 8
      · subst h8
        have HA : Hd (mAns EF c t fold 8 = preB la lt) := ⟨by rw [HLL.out.1, HLL.out.2]; rfl⟩
        by_cases hle : lt.size ≤ la.size
        · have hle2 : (lt.size : Int) ≤ (la.size : Int) := by omega
          have HP : Hd (preB la lt = ((la.extract 0 lt.size).toList == lt.toList)) := ⟨by unfold preB; rw [decide_eq_true hle, Bool.true_and, seq_iff]⟩
          go_wp2
          go_ret
          exact ⟨ret_bool (by rw [HA.out, HP.out]), HBW.out⟩
        · have hle2 : ¬ (lt.size : Int) ≤ (la.size : Int) := by omega
          have HP : Hd (preB la lt = false) := ⟨by unfold preB; rw [decide_eq_false hle, Bool.false_and]⟩
          go_wp2
          go_ret
          exact ⟨ret_bool (by rw [HA.out, HP.out]), HBW.out⟩
      by_cases h9 : op = 9
      · subst h9
        have HA : Hd (mAns EF c t fold 9 = sufB la lt) := ⟨by rw [HLL.out.1, HLL.out.2]; rfl⟩
        by_cases hle : lt.size ≤ la.size
        · have hle2 : (lt.size : Int) ≤ (la.size : Int) := by omega
          have hsub : (la.size : Int) - (lt.size : Int) = ((la.size - lt.size : Nat) : Int) := by omega
          have hsub2 : la.size - lt.size ≤ la.size := Nat.sub_le _ _
          have HP : Hd (sufB la lt = ((la.extract (la.size - lt.size) la.size).toList == lt.toList)) := ⟨by unfold sufB; rw [decide_eq_true hle, Bool.true_and, seq_iff]⟩
          go_wp2
          go_ret
          exact ⟨ret_bool (by rw [HA.out, HP.out]), HBW.out⟩
        · have hle2 : ¬ (lt.size : Int) ≤ (la.size : Int) := by omega
          have HP : Hd (sufB la lt = false) := ⟨by unfold sufB; rw [decide_eq_false hle, Bool.false_and]⟩
          go_wp2
          go_ret
          exact ⟨ret_bool (by rw [HA.out, HP.out]), HBW.out⟩
      have HA : Hd (mAns EF c t fold op = false) := ⟨mAns_other (by omega)⟩
      have b0 : (op == 0) = false := beq_eq_false_iff_ne.2 h0
      have b1 : (op == 1) = false := beq_eq_false_iff_ne.2 h1
      have b2 : (op == 2) = false := beq_eq_false_iff_ne.2 h2
      have b3 : (op == 3) = false := beq_eq_false_iff_ne.2 h3
      have b4 : (op == 4) = false := beq_eq_false_iff_ne.2 h4
      have b5 : (op == 5) = false := beq_eq_false_iff_ne.2 h5
      have b6 : (op == 6) = false := beq_eq_false_iff_ne.2 h6
      have b7 : (op == 7) = false := beq_eq_false_iff_ne.2 h7
      have b8 : (op == 8) = false := beq_eq_false_iff_ne.2 h8
      have b9 : (op == 9) = false := beq_eq_false_iff_ne.2 h9
      clear h0 h1 h2 h3 h4 h5 h6 h7 h8 h9
      go_wp2
      go_ret
      exact ⟨ret_bool (by rw [HA.out]), HBW.out⟩
end Go.Proofs.YtknjgopapbemcaaGreatDoor
/- Walk of the law: whatever the cell and the rule, it answers true. -/
namespace Go.Proofs.YtknjgopapbemcaaGreatDoor
open Go.RowKit
set_option linter.unusedVariables false
set_option linter.unusedSimpArgs false
set_option maxHeartbeats 1000000 in
set_option maxRecDepth 100000 in
theorem fits9_any (k n : Int) (s : ByteArray) (w : World) : Calls Tryz.prog 7 #[.agg #[.int .i64 k, .string s, .int .i64 n]] w fun e w' => e = .returned (.bool (decide (s.size ≤ 2147483647))) ∧ Below w.heap.size w w' := by
  by_cases h : s.size ≤ 2147483647
  · have hb : decide ((2147483647 : Int) < (s.size : Int)) = false := decide_eq_false (by omega)
    have HD : Hd (decide (s.size ≤ 2147483647) = true) := ⟨decide_eq_true h⟩
    clear h
    rw [HD.out]
    go_enter Tryz.func7, Tryz.ntmps7
    go_wp2
    go_ret
    exact ⟨rfl, (Below.refl _ _).alloc (Nat.le_refl _) _⟩
  · have hb : decide ((2147483647 : Int) < (s.size : Int)) = true := decide_eq_true (by omega)
    have HD : Hd (decide (s.size ≤ 2147483647) = false) := ⟨decide_eq_false h⟩
    clear h
    rw [HD.out]
    go_enter Tryz.func7, Tryz.ntmps7
    go_wp2
    go_ret
    exact ⟨rfl, (Below.refl _ _).alloc (Nat.le_refl _) _⟩
set_option maxHeartbeats 1000000 in
set_option maxRecDepth 100000 in
theorem fits14_any (num op k n : Int) (s : ByteArray) (fold : Bool) (w : World) : Calls Tryz.prog 4 #[.agg #[.int .i64 num, .int .i64 op, .int .i64 k, .string s, .int .i64 n, .bool fold]] w fun e w' => e = .returned (.bool (decide (s.size ≤ 2147483647))) ∧ Below w.heap.size w w' := by
  have HC := Hd.mk (fits9_any k n s)
  obtain ⟨r, hr⟩ : ∃ r, r = decide (s.size ≤ 2147483647) := ⟨_, rfl⟩
  rw [← hr] at HC ⊢
  clear hr
  cases r
  all_goals (
    go_enter Tryz.func4, Tryz.ntmps4
    go_wp2_with fail
    refine (HC.out _).mono ?_
    rintro e w' ⟨rfl, hb⟩
    go_wp2_with fail
    go_ret
    exact ⟨rfl, ((Below.refl _ _).alloc (Nat.le_refl _) _).trans (hb.mono (by simp))⟩)
theorem dcm_text (n : Int) : ∃ t, tx t = dcm n := by
  refine ⟨⟨((dcm n).map UInt8.ofNat).toArray⟩, tx_mk _ (fun j => ?_)⟩
  have hall : ∀ c ∈ dcm n, c < 256 := by
    intro c hc
    unfold dcm at hc
    split at hc
    · rcases List.mem_cons.1 hc with h | h
      · omega
      · have := fu_all (n.natAbs + 1) n.natAbs (by omega) c h; omega
    · have := fu_all (n.natAbs + 1) n.natAbs (by omega) c hc; omega
  unfold bt
  rw [List.getD_eq_getElem?_getD]
  by_cases hj : j < (dcm n).length
  · rw [List.getElem?_eq_getElem hj]; exact hall _ (List.getElem_mem hj)
  · rw [List.getElem?_eq_none (by omega)]; simp
set_option maxHeartbeats 2000000 in
set_option maxRecDepth 100000 in
theorem fnMatch_any {EF : ByteArray → ByteArray → Bool} (hEF : EFok EF) (c s : ByteArray) (num op k n : Int) (fold : Bool) (w : World) (hW : Wd w) (h1 : -9223372036854775808 ≤ n) (h2 : n ≤ 9223372036854775807) :
    Calls Tryz.prog 3 #[.string c, .agg #[.int .i64 num, .int .i64 op, .int .i64 k, .string s, .int .i64 n, .bool fold]] w fun e w' => e = .returned (.bool true) ∧ Below w.heap.size w w' := by
  have HF := Hd.mk (fits14_any num op k n s fold)
  have HBA := Hd.mk (fun o => (Below.refl w.heap.size w).alloc (Nat.le_refl _) o)
  by_cases hc : 2147483647 < c.size
  · have hb : decide ((2147483647 : Int) < (c.size : Int)) = true := decide_eq_true (by omega)
    clear hc hW hEF
    go_enter Tryz.func3, Tryz.ntmps3
    go_wp2_with fail
    go_ret
    exact ⟨rfl, HBA.out _⟩
  · have hb : decide ((2147483647 : Int) < (c.size : Int)) = false := decide_eq_false (by omega)
    by_cases hs : s.size ≤ 2147483647
    · rw [decide_eq_true hs] at HF
      by_cases hc4 : 400 < c.size
      · have hb4 : decide ((400 : Int) < (c.size : Int)) = true := decide_eq_true (by omega)
        clear hc4 hW hEF
        go_enter Tryz.func3, Tryz.ntmps3
        go_wp2_with fail
        refine (HF.out _).mono ?_
        rintro e w' ⟨rfl, hb2⟩
        go_wp2_with fail
        go_ret
        exact ⟨rfl, (HBA.out _).trans (hb2.mono (HBA.out _).size)⟩
      · have hb4 : decide ((400 : Int) < (c.size : Int)) = false := decide_eq_false (by omega)
        have hc400 : c.size ≤ 400 := by omega
        by_cases hs4 : 400 < s.size
        · have hb5 : decide ((400 : Int) < (s.size : Int)) = true := decide_eq_true (by omega)
          clear hs4 hW hEF hc4
          go_enter Tryz.func3, Tryz.ntmps3
          go_wp2_with fail
          refine (HF.out _).mono ?_
          rintro e w' ⟨rfl, hb2⟩
          have c3 := hb2.cell (p := ⟨w.heap.size, 3, none⟩) (by simp)
          go_wp2_with fail
          go_ret
          exact ⟨rfl, (HBA.out _).trans (hb2.mono (HBA.out _).size)⟩
        · have hb5 : decide ((400 : Int) < (s.size : Int)) = false := decide_eq_false (by omega)
          have hs400 : s.size ≤ 400 := by omega
          clear hc hs hc4 hs4
          by_cases hk : k = 0 ∨ k = 1
          · obtain ⟨t, hT⟩ : ∃ t, KText k s n t := by
              rcases hk with rfl | rfl
              · exact ⟨s, .inl ⟨rfl, rfl⟩, hs400, h1, h2⟩
              · obtain ⟨t, ht⟩ := dcm_text n
                exact ⟨t, .inr ⟨rfl, ht⟩, hs400, h1, h2⟩
            obtain ⟨r, hr⟩ : ∃ r, r = mAns EF c t fold op := ⟨_, rfl⟩
            obtain ⟨w1, hw1⟩ : ∃ w1, w1 = w.alloc (.cells #[.int .i64 num, .int .i64 op, .int .i64 k, .string s, .int .i64 n, .bool fold] 25) := ⟨_, rfl⟩
            have e1 : w1.heap[w.heap.size]? = some (.cells #[.int .i64 num, .int .i64 op, .int .i64 k, .string s, .int .i64 n, .bool fold] 25 (0, 0)) := by rw [hw1]; exact heap_alloc_new _ _
            have HB1 : Hd (Below w.heap.size w w1) := ⟨by rw [hw1]; exact (Below.refl _ _).alloc (Nat.le_refl _) _⟩
            have hbl : w.heap.size < w1.heap.size := by rw [hw1]; simp
            have HI : Hd (∀ W, Below w1.heap.size w1 W → Calls Tryz.prog 5 #[.string c, .agg #[.int .i64 num, .int .i64 op, .int .i64 k, .string s, .int .i64 n, .bool fold]] W fun e w' => e = .returned (.bool r) ∧ Below w1.heap.size w1 w') := ⟨fun W hb => by
              rw [hr]
              exact (imatch_any hEF c s t num op k n fold W (hW.below (HB1.out.trans (hb.mono HB1.out.size))) hT hc400).mono fun e w' h => ⟨h.1, hb.trans (h.2.mono hb.size)⟩⟩
            have HS : Hd (∀ W, Below w1.heap.size w1 W → Calls Tryz.prog 6 #[.string c, .agg #[.int .i64 num, .int .i64 op, .int .i64 k, .string s, .int .i64 n, .bool fold]] W fun e w' => e = .returned (.bool r) ∧ Below w1.heap.size w1 w') := ⟨fun W hb => by
              rw [hr]
              exact (smatch_any hEF c s t num op k n fold W (hW.below (HB1.out.trans (hb.mono HB1.out.size))) hT hc400).mono fun e w' h => ⟨h.1, hb.trans (h.2.mono hb.size)⟩⟩
            obtain ⟨b, hb0⟩ : ∃ b, b = w.heap.size := ⟨_, rfl⟩
            have HK : Hd (∀ W, Below w1.heap.size w1 W → W.cell? ⟨b, 0, none⟩ = some (.int .i64 num) ∧ W.cell? ⟨b, 1, none⟩ = some (.int .i64 op) ∧ W.cell? ⟨b, 2, none⟩ = some (.int .i64 k) ∧ W.cell? ⟨b, 3, none⟩ = some (.string s) ∧ W.cell? ⟨b, 4, none⟩ = some (.int .i64 n) ∧ W.cell? ⟨b, 5, none⟩ = some (.bool fold)) := ⟨fun W hbw => by
              have hc : ∀ o, W.cell? ⟨b, o, none⟩ = w1.cell? ⟨b, o, none⟩ := fun o => hbw.cell (p := ⟨b, o, none⟩) (by rw [hb0]; exact hbl)
              rw [hc, hc, hc, hc, hc, hc, hb0]
              refine ⟨?_, ?_, ?_, ?_, ?_, ?_⟩ <;> simp [World.cell?, e1]⟩
            have HW1 := Hd.mk (And.intro hw1 hb0)
            clear hw1 e1 hbl hb0 hr hW hEF hT
            have hkk : ((k != 0) = false) ∨ ((k != 0) = true ∧ (k != 1) = false) := by
              rcases hk with h | h
              · left; rw [h]; rfl
              · right; rw [h]; exact ⟨rfl, rfl⟩
            clear hk
            rcases hkk with bk0 | ⟨bk0, bk1⟩
            all_goals (
              go_enter Tryz.func3, Tryz.ntmps3
              go_wp2_with fail
              rw [← HW1.out.1, ← HW1.out.2]
              refine (HF.out _).mono ?_
              rintro e w' ⟨rfl, hb2⟩
              obtain ⟨c0, c1, c2, c3, c4, c5⟩ := HK.out _ hb2
              have hbd : Below w1.heap.size w1 w'.drew := Below.drew hb2
              go_wp2_with fail
              go_region_held3 (fun w' => w'.cell? ⟨b, 0, none⟩ = some (.int .i64 num) ∧ w'.cell? ⟨b, 1, none⟩ = some (.int .i64 op) ∧ w'.cell? ⟨b, 2, none⟩ = some (.int .i64 k) ∧ w'.cell? ⟨b, 3, none⟩ = some (.string s) ∧ w'.cell? ⟨b, 4, none⟩ = some (.int .i64 n) ∧ w'.cell? ⟨b, 5, none⟩ = some (.bool fold) ∧ Below w1.heap.size w1 w')
                (first
                  | (go_split_ands
                     refine ⟨?_, ?_, ?_, ?_, ?_, ?_, ?_⟩ <;> (first | with_reducible assumption | assumption))
                  | go_keep)
                (first
                  | (go_at_call 5; (with_reducible refine (HI.out _ (by assumption)).mono ?_); rintro e w2 ⟨rfl, hq⟩; obtain ⟨q0, q1, q2, q3, q4, q5⟩ := HK.out _ hq)
                  | (go_at_call 6; (with_reducible refine (HS.out _ (by assumption)).mono ?_); rintro e w2 ⟨rfl, hq⟩; obtain ⟨q0, q1, q2, q3, q4, q5⟩ := HK.out _ hq))
              all_goals (
                go_wp2
                go_ret
                exact ⟨rfl, HB1.out.trans (hq.mono HB1.out.size)⟩))
          · have bk0 : (k != 0) = true := by rw [bne, beq_eq_false_iff_ne.2 (by omega)]; rfl
            have bk1 : (k != 1) = true := by rw [bne, beq_eq_false_iff_ne.2 (by omega)]; rfl
            clear hk hW hEF
            go_enter Tryz.func3, Tryz.ntmps3
            go_wp2_with fail
            refine (HF.out _).mono ?_
            rintro e w' ⟨rfl, hb2⟩
            have c3 := hb2.cell (p := ⟨w.heap.size, 3, none⟩) (by simp)
            have c2 := hb2.cell (p := ⟨w.heap.size, 2, none⟩) (by simp)
            go_wp2_with fail
            go_ret
            exact ⟨rfl, (HBA.out _).trans (hb2.mono (HBA.out _).size)⟩
    · rw [decide_eq_false hs] at HF
      clear hs hW hEF
      go_enter Tryz.func3, Tryz.ntmps3
      go_wp2_with fail
      refine (HF.out _).mono ?_
      rintro e w' ⟨rfl, hb2⟩
      go_wp2_with fail
      go_ret
      exact ⟨rfl, (HBA.out _).trans (hb2.mono (HBA.out _).size)⟩
end Go.Proofs.YtknjgopapbemcaaGreatDoor
