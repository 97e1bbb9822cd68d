/- Pk Te Tf: joined by merge.py for the claim. -/
import Derived.Test.YtknjgopapbemcaaGreatDoorXTaTc
import Derived.Test.YtknjgopapbemcaaGreatDoorXTd
/- Plain: a whole number's decimals read back. -/
namespace Go.Proofs.YtknjgopapbemcaaGreatDoor
open Go.RowKit
set_option linter.unusedVariables false
set_option linter.unusedSimpArgs false
theorem scan_append (hex : Bool) : ∀ (l : List Nat) (st st' : St) (x : List Nat), scan hex st l = (st', []) → scan hex st (l ++ x) = scan hex st' x := by
  intro l
  induction l with
  | nil => intro st st' x h; rw [scan] at h; injection h with h _; rw [h]; rfl
  | cons a l ih =>
    intro st st' x h
    cases hs : stp hex st a with
    | none => rw [scan_none hs] at h; injection h with _ h; cases h
    | some s2 =>
      rw [scan_some hs] at h
      rw [List.cons_append, scan_some hs]
      exact ih _ _ _ h
theorem scan_fu : ∀ (k n : Nat), n < k → ∃ ds, scan false st0 (fu n) = (⟨ds, 0, false, true, false⟩, []) ∧ dn ds = n ∧ (n ≠ 0 → ds ≠ []) := by
  intro k
  induction k with
  | zero => intro n h; omega
  | succ k ih =>
    intro n h
    have hdv : ∀ d, d < 10 → dval false (48 + d) = some d := fun d hd => by rw [dval_c (by omega)]; congr 1; omega
    by_cases h10 : n < 10
    · refine ⟨psh [] n, ?_, ?_, ?_⟩
      · rw [fu_lo h10, scan_some (stp_dig (by omega) (hdv n h10)), scan]; rfl
      · unfold psh; split
        · rename_i h; rw [h.2]; rfl
        · simp [dn]
      · intro hn; unfold psh; rw [if_neg (fun h => hn h.2)]; simp
    · obtain ⟨ds, h1, h2, h3⟩ := ih (n / 10) (by omega)
      have hne := h3 (by omega)
      refine ⟨ds ++ [n % 10], ?_, ?_, fun _ => by simp⟩
      · rw [fu_hi h10, scan_append false _ _ _ _ h1, scan_some (stp_dig (by omega) (hdv (n % 10) (by omega))), scan]
        unfold psh
        rw [if_neg (fun h => hne h.1)]; rfl
      · rw [dn_snoc, h2]; omega
theorem fu_ne (n : Nat) : fu n ≠ [] := by
  by_cases h : n < 10
  · rw [fu_lo h]; simp
  · rw [fu_hi h]; simp
theorem fu_all : ∀ (k n : Nat), n < k → ∀ c ∈ fu n, 48 ≤ c ∧ c ≤ 57 := by
  intro k
  induction k with
  | zero => intro n h; omega
  | succ k ih =>
    intro n h c hc
    by_cases h10 : n < 10
    · rw [fu_lo h10, List.mem_singleton] at hc; omega
    · rw [fu_hi h10, List.mem_append, List.mem_singleton] at hc
      rcases hc with hc | hc
      · exact ih _ (by omega) c hc
      · omega
theorem fu_bt (n k : Nat) (h : k < (fu n).length) : 48 ≤ bt (fu n) k ∧ bt (fu n) k ≤ 57 := by
  refine fu_all (n + 1) n (by omega) _ ?_
  unfold bt
  rw [List.getD_eq_getElem?_getD, List.getElem?_eq_getElem h]
  exact List.getElem_mem h
theorem fu_pos (n : Nat) : 0 < (fu n).length := List.length_pos_iff.2 (fu_ne n)
theorem uns_fu (n : Nat) : ∃ ds, uns (fu n) = some (⟨false, ds, 0, 0, false⟩, []) ∧ dn ds = n := by
  obtain ⟨ds, h1, h2, _⟩ := scan_fu (n + 1) n (by omega)
  refine ⟨ds, ?_, h2⟩
  have hx : isHex (fu n) = false := by
    unfold isHex
    refine decide_eq_false ?_
    rintro ⟨h3, _, h5⟩
    have := fu_bt n 1 (by omega)
    have hz : ∀ i : Fin 10, lw (48 + i.val) ≠ 120 := by decide
    have h6 := hz ⟨bt (fu n) 1 - 48, by omega⟩
    simp only at h6
    rw [show 48 + (bt (fu n) 1 - 48) = bt (fu n) 1 by omega] at h6
    exact h6 h5
  unfold uns
  rw [hx, if_neg (by simp)]
  unfold body
  rw [h1]
  simp only
  rw [if_neg (by simp), if_neg (by decide), if_neg (by simp)]
theorem pf_dcm {n : Int} (h1 : -9223372036854775808 ≤ n) (h2 : n ≤ 9223372036854775807) : pf (dcm n) = some (sgnB (decide (n < 0)) + rung n.natAbs 1) := by
  obtain ⟨m, hm⟩ : ∃ m, m = n.natAbs := ⟨_, rfl⟩
  rw [← hm]
  have hp := fu_pos m
  have hb0 := fu_bt m 0 hp
  have hlc : ∀ c, 48 ≤ c → c ≤ 57 → lc c = c := fun c h3 h4 => by unfold lc; rw [if_neg (by omega)]
  have hfu : noSgn (fu m) = fu m := noSgn_same (by omega) (by omega)
  have hns : noSgn (dcm n) = fu m ∧ isNeg (dcm n) = decide (n < 0) ∧ fNan (dcm n) = false := by
    unfold dcm
    rw [← hm]
    by_cases hn : n < 0
    · rw [if_pos hn, decide_eq_true hn]
      refine ⟨?_, rfl, fld_no0 ?_⟩
      · rw [noSgn_drop (.inr rfl)]; rfl
      · show lc 45 ≠ 110; decide
    · rw [if_neg hn, decide_eq_false hn]
      refine ⟨hfu, ?_, fld_no0 ?_⟩
      · unfold isNeg; exact decide_eq_false (by omega)
      · rw [hlc _ hb0.1 hb0.2]; omega
  obtain ⟨e1, e2, e3⟩ := hns
  have e4 : fInf (noSgn (dcm n)) = false := by rw [e1]; exact fld_no0 (by rw [hlc _ hb0.1 hb0.2]; omega)
  have e5 : fInfy (noSgn (dcm n)) = false := by rw [e1]; exact fld_no0 (by rw [hlc _ hb0.1 hb0.2]; omega)
  obtain ⟨ds, h3, h4⟩ := uns_fu m
  have hw : whole (dcm n) = some (decide (n < 0), ⟨false, ds, 0, 0, false⟩) := by
    unfold whole
    rw [e1, h3, e2]
    rfl
  have hmag : mag ⟨false, ds, 0, 0, false⟩ = rung m 1 := by
    have z1 : ((0 : Int) - ((0 : Nat) : Int)).toNat = 0 := by decide
    have z2 : (-((0 : Int) - ((0 : Nat) : Int))).toNat = 0 := by decide
    unfold mag
    rw [if_neg (by simp)]
    simp only
    rw [z1, z2, Nat.pow_zero, Nat.mul_one, h4]
  have hfin : rung m 1 < infR := rung_fin (k := 64) (by omega) (by omega) (by omega)
  rw [pf_whole e3 e4 e5, hw]
  simp only
  rw [hmag, if_neg (by omega)]
theorem float_int (n : Int) : floatOfInt .f64 n = sgnB (decide (n < 0)) + rung n.natAbs 1 := by
  have e1 : floatOfInt .f64 n = Ieee.double.nearest (decide (n < 0)) n.natAbs 0 := rfl
  rw [e1, nearest_rg, ← fw_word]
  unfold rg fw
  simp
end Go.Proofs.YtknjgopapbemcaaGreatDoor
/- Walks of the table's comparisons. -/
namespace Go.Proofs.YtknjgopapbemcaaGreatDoor
open Go.RowKit
set_option linter.unusedVariables false
set_option linter.unusedSimpArgs false
set_option maxHeartbeats 1000000 in
set_option maxRecDepth 100000 in
theorem ceq_any {EF : ByteArray → ByteArray → Bool} (hEF : EFok EF) (P vv : Value) (c t : ByteArray) (fold : Bool) (w : World) (hW : Wd w) (hv : VText vv t) (hc : c.size ≤ 400) :
    Calls Tryz.prog 27 #[P, .string c, vv, .bool fold] w fun e w' => e = .returned (.bool (if fold then EF c t else decide (c = t))) ∧ Below w.heap.size w w' := by
  have HT := Hd.mk (zzText_v hv)
  have HF : Hd (∀ w', Below w.heap.size w w' → Calls Tryz.prog 13 #[.string c, .string t] w' fun e w'' => e = .returned (.bool (EF c t)) ∧ Below w'.heap.size w' w'') := ⟨fun w' hb => hEF c t w' (hW.below hb) hc hv.size⟩
  clear hW hv hEF
  cases fold
  · go_enter Tryz.func27, Tryz.ntmps27
    go_wp2_with fail
    refine (HT.out _).mono ?_
    rintro e w' ⟨rfl, hb⟩
    go_wp2_with fail
    go_ret
    exact ⟨ret_bool (seq_iff _ _), hb⟩
  · go_enter Tryz.func27, Tryz.ntmps27
    go_wp2_with fail
    refine (HT.out _).mono ?_
    rintro e w' ⟨rfl, hb⟩
    have HB := Hd.mk hb
    clear hb
    go_wp2_with fail
    refine (HF.out _ HB.out).mono ?_
    rintro e w2 ⟨rfl, hb⟩
    go_wp2_with fail
    go_ret
    exact ⟨rfl, HB.out.trans (hb.mono HB.out.size)⟩
set_option maxHeartbeats 1000000 in
set_option maxRecDepth 100000 in
theorem ccon_any (P vv : Value) (c t : ByteArray) (fold : Bool) (w : World) (hW : Wd w) (hv : VText vv t) (hc : c.size ≤ 400) :
    Calls Tryz.prog 33 #[P, .string c, vv, .bool fold] w fun e w' => e = .returned (.bool (holdsB (if fold then low c else c) (if fold then low t else t))) ∧ Below w.heap.size w w' := by
  have HT := Hd.mk (zzText_v hv)
  have hts := hv.size
  have HL : Hd (∀ s w', s.size ≤ 400 → Below w.heap.size w w' → Calls Tryz.prog 11 #[.string s] w' fun e w'' => e = .returned (.string (low s)) ∧ Below w'.heap.size w' w'') := ⟨fun s w' hs hb => toLower_any s w' (hW.below hb) hs⟩
  have HC := Hd.mk (fun (s x : ByteArray) (W : World) (hs : s.size ≤ 1600) (hx : x.size ≤ 1600) => contains_any s x W (by omega) (by omega))
  have hl1 := low_size c hc
  have hl2 := low_size t hts
  clear hW hv
  cases fold
  · go_enter Tryz.func33, Tryz.ntmps33
    go_wp2_with fail
    refine (HT.out _).mono ?_
    rintro e w' ⟨rfl, hb⟩
    go_wp2_with fail
    refine (HC.out _ _ _ (by omega) (by omega)).mono ?_
    rintro e w2 ⟨rfl, rfl⟩
    go_wp2_with fail
    go_ret
    exact ⟨rfl, hb⟩
  · go_enter Tryz.func33, Tryz.ntmps33
    go_wp2_with fail
    refine (HT.out _).mono ?_
    rintro e w' ⟨rfl, hb⟩
    have HB := Hd.mk hb
    clear hb
    go_wp2_with fail
    refine (HL.out _ _ hc HB.out).mono ?_
    rintro e w2 ⟨rfl, hb⟩
    have HB2 := Hd.mk (HB.out.trans (hb.mono HB.out.size))
    clear hb
    go_wp2_with fail
    refine (HL.out _ _ hts HB2.out).mono ?_
    rintro e w3 ⟨rfl, hb⟩
    have HB3 := Hd.mk (HB2.out.trans (hb.mono HB2.out.size))
    clear hb
    go_wp2_with fail
    refine (HC.out _ _ _ hl1 hl2).mono ?_
    rintro e w4 ⟨rfl, rfl⟩
    go_wp2_with fail
    go_ret
    exact ⟨rfl, HB3.out⟩
set_option maxHeartbeats 1000000 in
set_option maxRecDepth 100000 in
theorem cpre_any (P vv : Value) (c t : ByteArray) (fold : Bool) (w : World) (hW : Wd w) (hv : VText vv t) (hc : c.size ≤ 400) :
    Calls Tryz.prog 34 #[P, .string c, vv, .bool fold] w fun e w' => e = .returned (.bool (preB (if fold then low c else c) (if fold then low t else t))) ∧ Below w.heap.size w w' := by
  have HT := Hd.mk (zzText_v hv)
  have hts := hv.size
  have HL : Hd (∀ s w', s.size ≤ 400 → Below w.heap.size w w' → Calls Tryz.prog 11 #[.string s] w' fun e w'' => e = .returned (.string (low s)) ∧ Below w'.heap.size w' w'') := ⟨fun s w' hs hb => toLower_any s w' (hW.below hb) hs⟩
  have HC : Hd (∀ s x W, Calls Tryz.prog 50 #[.string s, .string x] W fun e w' => e = .returned (.bool (preB s x)) ∧ W = w') := ⟨fun s x W => (Tryz.strings_HasPrefix s x W).mono fun e w' h => ⟨by rw [← pre_iff]; exact h.1, h.2.symm⟩⟩
  clear hW hv
  cases fold
  · go_enter Tryz.func34, Tryz.ntmps34
    go_wp2_with fail
    refine (HT.out _).mono ?_
    rintro e w' ⟨rfl, hb⟩
    go_wp2_with fail
    refine (HC.out _ _ _).mono ?_
    rintro e w2 ⟨rfl, rfl⟩
    go_wp2_with fail
    go_ret
    exact ⟨rfl, hb⟩
  · go_enter Tryz.func34, Tryz.ntmps34
    go_wp2_with fail
    refine (HT.out _).mono ?_
    rintro e w' ⟨rfl, hb⟩
    have HB := Hd.mk hb
    clear hb
    go_wp2_with fail
    refine (HL.out _ _ hc HB.out).mono ?_
    rintro e w2 ⟨rfl, hb⟩
    have HB2 := Hd.mk (HB.out.trans (hb.mono HB.out.size))
    clear hb
    go_wp2_with fail
    refine (HL.out _ _ hts HB2.out).mono ?_
    rintro e w3 ⟨rfl, hb⟩
    have HB3 := Hd.mk (HB2.out.trans (hb.mono HB2.out.size))
    clear hb
    go_wp2_with fail
    refine (HC.out _ _ _).mono ?_
    rintro e w4 ⟨rfl, rfl⟩
    go_wp2_with fail
    go_ret
    exact ⟨rfl, HB3.out⟩
set_option maxHeartbeats 1000000 in
set_option maxRecDepth 100000 in
theorem csuf_any (P vv : Value) (c t : ByteArray) (fold : Bool) (w : World) (hW : Wd w) (hv : VText vv t) (hc : c.size ≤ 400) :
    Calls Tryz.prog 35 #[P, .string c, vv, .bool fold] w fun e w' => e = .returned (.bool (sufB (if fold then low c else c) (if fold then low t else t))) ∧ Below w.heap.size w w' := by
  have HT := Hd.mk (zzText_v hv)
  have hts := hv.size
  have HL : Hd (∀ s w', s.size ≤ 400 → Below w.heap.size w w' → Calls Tryz.prog 11 #[.string s] w' fun e w'' => e = .returned (.string (low s)) ∧ Below w'.heap.size w' w'') := ⟨fun s w' hs hb => toLower_any s w' (hW.below hb) hs⟩
  have HC : Hd (∀ s x W, s.size ≤ 1600 → Calls Tryz.prog 51 #[.string s, .string x] W fun e w' => e = .returned (.bool (sufB s x)) ∧ W = w') := ⟨fun s x W hs => (Tryz.strings_HasSuffix s x W (by omega)).mono fun e w' h => ⟨by rw [← suf_iff]; exact h.1, h.2.symm⟩⟩
  have hl1 := low_size c hc
  clear hW hv
  cases fold
  · go_enter Tryz.func35, Tryz.ntmps35
    go_wp2_with fail
    refine (HT.out _).mono ?_
    rintro e w' ⟨rfl, hb⟩
    go_wp2_with fail
    refine (HC.out _ _ _ (by omega)).mono ?_
    rintro e w2 ⟨rfl, rfl⟩
    go_wp2_with fail
    go_ret
    exact ⟨rfl, hb⟩
  · go_enter Tryz.func35, Tryz.ntmps35
    go_wp2_with fail
    refine (HT.out _).mono ?_
    rintro e w' ⟨rfl, hb⟩
    have HB := Hd.mk hb
    clear hb
    go_wp2_with fail
    refine (HL.out _ _ hc HB.out).mono ?_
    rintro e w2 ⟨rfl, hb⟩
    have HB2 := Hd.mk (HB.out.trans (hb.mono HB.out.size))
    clear hb
    go_wp2_with fail
    refine (HL.out _ _ hts HB2.out).mono ?_
    rintro e w3 ⟨rfl, hb⟩
    have HB3 := Hd.mk (HB2.out.trans (hb.mono HB2.out.size))
    clear hb
    go_wp2_with fail
    refine (HC.out _ _ _ hl1).mono ?_
    rintro e w4 ⟨rfl, rfl⟩
    go_wp2_with fail
    go_ret
    exact ⟨rfl, HB3.out⟩
theorem gt_any (x y : Nat) (w : World) : Calls Tryz.prog 29 #[.float .f64 x, .float .f64 y] w fun e w' => e = .returned (.bool (fcmp 2 x y)) ∧ w = w' := by
  go_enter Tryz.func29, Tryz.ntmps29
  go_wp2
  go_ret
  exact ⟨rfl, rfl⟩
theorem ge_any (x y : Nat) (w : World) : Calls Tryz.prog 30 #[.float .f64 x, .float .f64 y] w fun e w' => e = .returned (.bool (fcmp 3 x y)) ∧ w = w' := by
  go_enter Tryz.func30, Tryz.ntmps30
  go_wp2
  go_ret
  exact ⟨rfl, rfl⟩
theorem lt_any (x y : Nat) (w : World) : Calls Tryz.prog 31 #[.float .f64 x, .float .f64 y] w fun e w' => e = .returned (.bool (fcmp 4 x y)) ∧ w = w' := by
  go_enter Tryz.func31, Tryz.ntmps31
  go_wp2
  go_ret
  exact ⟨rfl, rfl⟩
theorem le_any (x y : Nat) (w : World) : Calls Tryz.prog 32 #[.float .f64 x, .float .f64 y] w fun e w' => e = .returned (.bool (fcmp 5 x y)) ∧ w = w' := by
  go_enter Tryz.func32, Tryz.ntmps32
  go_wp2
  go_ret
  exact ⟨rfl, rfl⟩
end Go.Proofs.YtknjgopapbemcaaGreatDoor
/- Walk of the table's comparison of numbers. -/
namespace Go.Proofs.YtknjgopapbemcaaGreatDoor
open Go.RowKit
set_option linter.unusedVariables false
set_option linter.unusedSimpArgs false
/-- Which of the four comparisons a function is. -/
def cmpF (op : Int) : Nat := if op = 2 then 29 else if op = 3 then 30 else if op = 4 then 31 else 32
theorem cmpF_any (op : Int) (h : op = 2 ∨ op = 3 ∨ op = 4 ∨ op = 5) (x y : Nat) (w : World) : Calls Tryz.prog (cmpF op) #[.float .f64 x, .float .f64 y] w fun e w' => e = .returned (.bool (fcmp op x y)) ∧ w = w' := by
  rcases h with rfl | rfl | rfl | rfl
  · exact gt_any x y w
  · exact ge_any x y w
  · exact lt_any x y w
  · exact le_any x y w
theorem neq_any (T : TypeId) (v : Value) (w : World) : (binOp .neq 75 (.iface T v) .nilIface).run Tryz.prog w = .ok (.bool true) w := by kernel_rfl
theorem ta_s3 (s : ByteArray) (w : World) : (Instr.typeAssert (.iface 9 (.string s)) 20 3 true).run Tryz.prog w = .ok (.tuple #[.int .i64 0, .bool false]) w := by kernel_rfl
theorem ta_s2 (s : ByteArray) (w : World) : (Instr.typeAssert (.iface 9 (.string s)) 20 2 true).run Tryz.prog w = .ok (.tuple #[.int .i64 0, .bool false]) w := by kernel_rfl
theorem ta_s37 (s : ByteArray) (w : World) : (Instr.typeAssert (.iface 9 (.string s)) 20 37 true).run Tryz.prog w = .ok (.tuple #[.float .f64 0, .bool false]) w := by kernel_rfl
theorem ta_s106 (s : ByteArray) (w : World) : (Instr.typeAssert (.iface 9 (.string s)) 20 106 true).run Tryz.prog w = .ok (.tuple #[.float .f32 0, .bool false]) w := by kernel_rfl
set_option maxHeartbeats 1000000 in
set_option maxRecDepth 100000 in
theorem cnum_any (P vv : Value) (c t : ByteArray) (op : Int) (hop : op = 2 ∨ op = 3 ∨ op = 4 ∨ op = 5) (w : World) (hv : VText vv t) (hc : c.size ≤ 400) :
    Calls Tryz.prog 28 #[P, .string c, vv, .func (.func (cmpF op)) #[] #[]] w fun e w' => e = .returned (.bool (numB op (pf (tx c)) (pf (tx t)))) ∧ Below w.heap.size w w' := by
  have hts := hv.size
  obtain ⟨A, hA⟩ : ∃ A, A = pf (tx c) := ⟨_, rfl⟩
  obtain ⟨B, hB⟩ : ∃ B, B = pf (tx t) := ⟨_, rfl⟩
  have HPC : Hd (∀ W, Calls Tryz.prog 48 #[.string c, .int .i64 64] W fun e w' => Below W.heap.size W w' ∧ PfOut A e) := ⟨fun W => by rw [hA]; exact lpf_any c W (by omega)⟩
  have HPT : Hd (∀ W, Calls Tryz.prog 48 #[.string t, .int .i64 64] W fun e w' => Below W.heap.size W w' ∧ PfOut B e) := ⟨fun W => by rw [hB]; exact lpf_any t W (by omega)⟩
  have HCM := Hd.mk (cmpF_any op hop)
  rw [← hA, ← hB]
  have hn := neq_any
  obtain ⟨F, hF⟩ : ∃ F, F = cmpF op := ⟨_, rfl⟩
  rw [← hF] at HCM ⊢
  have HF4 : Hd (F = 29 ∨ F = 30 ∨ F = 31 ∨ F = 32) := ⟨by rw [hF]; rcases hop with rfl | rfl | rfl | rfl <;> simp [cmpF]⟩
  clear hF hA hop
  cases A with
  | none =>
    clear hB hv
    go_enter Tryz.func28, Tryz.ntmps28
    go_wp2_with fail
    refine (HPC.out _).mono ?_
    rintro e w' ⟨hb, x, T, v, rfl⟩
    go_wp2_with fail
    go_ret
    exact ⟨rfl, hb⟩
  | some a =>
    rcases hv.kind with rfl | ⟨n, rfl, h1, h2, h3⟩
    · clear hv hB
      have s3 := ta_s3 t
      have s2 := ta_s2 t
      have s37 := ta_s37 t
      have s106 := ta_s106 t
      have s9 := ta_ss t
      cases B with
      | none =>
        go_enter Tryz.func28, Tryz.ntmps28
        go_wp2_with fail
        refine (HPC.out _).mono ?_
        rintro e w' ⟨hb, he⟩
        have he' : e = .returned (.tuple #[.float .f64 a, .nilIface]) := he
        subst he'
        have HB := Hd.mk hb
        clear he hb
        go_wp2_with fail
        refine (HPT.out _).mono ?_
        rintro e w2 ⟨hb, x, T, v, rfl⟩
        have HB2 := Hd.mk hb
        clear hb
        go_wp2_with fail
        go_ret
        exact ⟨rfl, HB.out.trans (HB2.out.mono HB.out.size)⟩
      | some b =>
        go_enter Tryz.func28, Tryz.ntmps28
        go_wp2_with fail
        refine (HPC.out _).mono ?_
        rintro e w' ⟨hb, he⟩
        have he' : e = .returned (.tuple #[.float .f64 a, .nilIface]) := he
        subst he'
        have HB := Hd.mk hb
        clear he hb
        go_wp2_with fail
        refine (HPT.out _).mono ?_
        rintro e w2 ⟨hb, he⟩
        have he' : e = .returned (.tuple #[.float .f64 b, .nilIface]) := he
        subst he'
        have HB2 := Hd.mk hb
        clear he hb
        go_wp2_with fail
        rcases HF4.out with rfl | rfl | rfl | rfl
        all_goals (
          go_wp2_with fail
          refine (HCM.out _ _ _).mono ?_
          rintro e w3 ⟨rfl, rfl⟩
          go_wp2_with fail
          go_ret
          exact ⟨rfl, HB.out.trans (HB2.out.mono HB.out.size)⟩)
    · have HBQ : Hd (B = some (floatOfInt .f64 n)) := ⟨by rw [hB, h3, pf_dcm h1 h2, float_int]⟩
      clear hv hB h3
      have s3 := ta_ii n
      go_enter Tryz.func28, Tryz.ntmps28
      go_wp2_with fail
      refine (HPC.out _).mono ?_
      rintro e w' ⟨hb, he⟩
      have he' : e = .returned (.tuple #[.float .f64 a, .nilIface]) := he
      subst he'
      have HB := Hd.mk hb
      clear he hb
      go_wp2_with fail
      rcases HF4.out with rfl | rfl | rfl | rfl
      all_goals (
        go_wp2_with fail
        refine (HCM.out _ _ _).mono ?_
        rintro e w3 ⟨rfl, rfl⟩
        go_wp2_with fail
        go_ret
        exact ⟨by rw [HBQ.out]; rfl, HB.out⟩)
end Go.Proofs.YtknjgopapbemcaaGreatDoor
