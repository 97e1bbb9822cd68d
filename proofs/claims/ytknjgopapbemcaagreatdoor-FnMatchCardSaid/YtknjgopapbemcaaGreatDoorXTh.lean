/- Th: joined by merge.py for the claim. -/
import Derived.Test.YtknjgopapbemcaaGreatDoorXTg
/- Walks: the table's operators, and impl's Match. -/
namespace Go.Proofs.YtknjgopapbemcaaGreatDoor
open Go.RowKit
set_option linter.unusedVariables false
set_option linter.unusedSimpArgs false
theorem VText.iface {v : Value} {t : ByteArray} (h : VText v t) : ∃ T V, v = .iface T V := by
  rcases h.kind with rfl | ⟨n, rfl, _⟩
  · exact ⟨_, _, rfl⟩
  · exact ⟨_, _, rfl⟩
theorem mAns_other {EF : ByteArray → ByteArray → Bool} {c t : ByteArray} {fold : Bool} {op : Int} (h : op < 0 ∨ 9 < op) : mAns EF c t fold op = false := by
  unfold mAns
  rw [if_neg (by omega), if_neg (by omega), if_neg (by omega), if_neg (by omega), if_neg (by omega), if_neg (by omega), if_neg (by omega)]
set_option maxHeartbeats 2000000 in
set_option maxRecDepth 100000 in
theorem mop_any {EF : ByteArray → ByteArray → Bool} (hEF : EFok EF) (P vv : Value) (c t : ByteArray) (num op : Int) (fold : Bool) (w : World) (hW : Wd w) (hv : VText vv t) (hc : c.size ≤ 400) :
    Calls Tryz.prog 15 #[P, .string c, fltV num op vv fold] w fun e w' => e = .returned (.bool (mAns EF c t fold op)) ∧ Below w.heap.size w w' := by
  have HWW := Hd.mk (fun W (hb : Below w.heap.size w W) => hW.below hb)
  have HBA := Hd.mk (fun o => (Below.refl w.heap.size w).alloc (Nat.le_refl _) o)
  have HV := Hd.mk hv
  obtain ⟨T, V, rfl⟩ := hv.iface
  have HEF := Hd.mk hEF
  clear hv hW hEF
  show Calls Tryz.prog 15 #[P, .string c, .agg #[.string ⟨#[]⟩, .int .i64 num, .int .i64 op, .iface T V, .bool fold, .nilFunc]] w _
  by_cases h0 : op = 0
  · subst h0
    have HC : Hd (∀ o, Calls Tryz.prog 27 #[P, .string c, .iface T V, .bool fold] (w.alloc o) fun e w' => e = .returned (.bool (if fold then EF c t else decide (c = t))) ∧ Below (w.alloc o).heap.size (w.alloc o) w') := ⟨fun o => ceq_any HEF.out P _ c t fold _ (HWW.out _ (HBA.out o)) HV.out hc⟩
    have HA : Hd (mAns EF c t fold 0 = (if fold then EF c t else decide (c = t))) := ⟨rfl⟩
    obtain ⟨r, hr⟩ : ∃ r, r = (if fold then EF c t else decide (c = t)) := ⟨_, rfl⟩
    rw [← hr] at HC HA
    rw [HA.out]
    clear hr HA
    go_enter Tryz.func15, Tryz.ntmps15
    go_wp2_with fail
    refine (HC.out _).mono ?_
    rintro e w' ⟨rfl, hb⟩
    go_wp2_with fail
    go_ret
    exact ⟨rfl, (HBA.out _).trans (hb.mono (HBA.out _).size)⟩
  by_cases h1 : op = 1
  · subst h1
    have HC : Hd (∀ o, Calls Tryz.prog 27 #[P, .string c, .iface T V, .bool fold] (w.alloc o) fun e w' => e = .returned (.bool (if fold then EF c t else decide (c = t))) ∧ Below (w.alloc o).heap.size (w.alloc o) w') := ⟨fun o => ceq_any HEF.out P _ c t fold _ (HWW.out _ (HBA.out o)) HV.out hc⟩
    have HA : Hd (mAns EF c t fold 1 = !(if fold then EF c t else decide (c = t))) := ⟨rfl⟩
    obtain ⟨r, hr⟩ : ∃ r, r = (if fold then EF c t else decide (c = t)) := ⟨_, rfl⟩
    rw [← hr] at HC HA
    rw [HA.out]
    clear hr HA
    go_enter Tryz.func15, Tryz.ntmps15
    go_wp2_with fail
    refine (HC.out _).mono ?_
    rintro e w' ⟨rfl, hb⟩
    go_wp2_with fail
    go_ret
    exact ⟨rfl, (HBA.out _).trans (hb.mono (HBA.out _).size)⟩
  by_cases h2 : op = 2
  · subst h2
    have HC : Hd (∀ o, Calls Tryz.prog 28 #[P, .string c, .iface T V, .func (.func 29) #[] #[]] (w.alloc o) fun e w' => e = .returned (.bool (numB 2 (pf (tx c)) (pf (tx t)))) ∧ Below (w.alloc o).heap.size (w.alloc o) w') := ⟨fun o => cnum_any P _ c t 2 (by omega) _ HV.out hc⟩
    have HA : Hd (mAns EF c t fold 2 = (numB 2 (pf (tx c)) (pf (tx t)))) := ⟨rfl⟩
    obtain ⟨r, hr⟩ : ∃ r, r = (numB 2 (pf (tx c)) (pf (tx t))) := ⟨_, rfl⟩
    rw [← hr] at HC HA
    rw [HA.out]
    clear hr HA
    go_enter Tryz.func15, Tryz.ntmps15
    go_wp2_with fail
    refine (HC.out _).mono ?_
    rintro e w' ⟨rfl, hb⟩
    go_wp2_with fail
    go_ret
    exact ⟨rfl, (HBA.out _).trans (hb.mono (HBA.out _).size)⟩
  by_cases h3 : op = 3
  · subst h3
    have HC : Hd (∀ o, Calls Tryz.prog 28 #[P, .string c, .iface T V, .func (.func 30) #[] #[]] (w.alloc o) fun e w' => e = .returned (.bool (numB 3 (pf (tx c)) (pf (tx t)))) ∧ Below (w.alloc o).heap.size (w.alloc o) w') := ⟨fun o => cnum_any P _ c t 3 (by omega) _ HV.out hc⟩
    have HA : Hd (mAns EF c t fold 3 = (numB 3 (pf (tx c)) (pf (tx t)))) := ⟨rfl⟩
    obtain ⟨r, hr⟩ : ∃ r, r = (numB 3 (pf (tx c)) (pf (tx t))) := ⟨_, rfl⟩
    rw [← hr] at HC HA
    rw [HA.out]
    clear hr HA
    go_enter Tryz.func15, Tryz.ntmps15
    go_wp2_with fail
    refine (HC.out _).mono ?_
    rintro e w' ⟨rfl, hb⟩
    go_wp2_with fail
    go_ret
    exact ⟨rfl, (HBA.out _).trans (hb.mono (HBA.out _).size)⟩
  by_cases h4 : op = 4
  · subst h4
    have HC : Hd (∀ o, Calls Tryz.prog 28 #[P, .string c, .iface T V, .func (.func 31) #[] #[]] (w.alloc o) fun e w' => e = .returned (.bool (numB 4 (pf (tx c)) (pf (tx t)))) ∧ Below (w.alloc o).heap.size (w.alloc o) w') := ⟨fun o => cnum_any P _ c t 4 (by omega) _ HV.out hc⟩
    have HA : Hd (mAns EF c t fold 4 = (numB 4 (pf (tx c)) (pf (tx t)))) := ⟨rfl⟩
    obtain ⟨r, hr⟩ : ∃ r, r = (numB 4 (pf (tx c)) (pf (tx t))) := ⟨_, rfl⟩
    rw [← hr] at HC HA
    rw [HA.out]
    clear hr HA
    go_enter Tryz.func15, Tryz.ntmps15
    go_wp2_with fail
    refine (HC.out _).mono ?_
    rintro e w' ⟨rfl, hb⟩
    go_wp2_with fail
    go_ret
    exact ⟨rfl, (HBA.out _).trans (hb.mono (HBA.out _).size)⟩
  by_cases h5 : op = 5
  · subst h5
    have HC : Hd (∀ o, Calls Tryz.prog 28 #[P, .string c, .iface T V, .func (.func 32) #[] #[]] (w.alloc o) fun e w' => e = .returned (.bool (numB 5 (pf (tx c)) (pf (tx t)))) ∧ Below (w.alloc o).heap.size (w.alloc o) w') := ⟨fun o => cnum_any P _ c t 5 (by omega) _ HV.out hc⟩
    have HA : Hd (mAns EF c t fold 5 = (numB 5 (pf (tx c)) (pf (tx t)))) := ⟨rfl⟩
    obtain ⟨r, hr⟩ : ∃ r, r = (numB 5 (pf (tx c)) (pf (tx t))) := ⟨_, rfl⟩
    rw [← hr] at HC HA
    rw [HA.out]
    clear hr HA
    go_enter Tryz.func15, Tryz.ntmps15
    go_wp2_with fail
    refine (HC.out _).mono ?_
    rintro e w' ⟨rfl, hb⟩
    go_wp2_with fail
    go_ret
    exact ⟨rfl, (HBA.out _).trans (hb.mono (HBA.out _).size)⟩
  by_cases h6 : op = 6
  · subst h6
    have HC : Hd (∀ o, Calls Tryz.prog 33 #[P, .string c, .iface T V, .bool fold] (w.alloc o) fun e w' => e = .returned (.bool (holdsB (if fold then low c else c) (if fold then low t else t))) ∧ Below (w.alloc o).heap.size (w.alloc o) w') := ⟨fun o => ccon_any P _ c t fold _ (HWW.out _ (HBA.out o)) HV.out hc⟩
    have HA : Hd (mAns EF c t fold 6 = (holdsB (if fold then low c else c) (if fold then low t else t))) := ⟨rfl⟩
    obtain ⟨r, hr⟩ : ∃ r, r = (holdsB (if fold then low c else c) (if fold then low t else t)) := ⟨_, rfl⟩
    rw [← hr] at HC HA
    rw [HA.out]
    clear hr HA
    go_enter Tryz.func15, Tryz.ntmps15
    go_wp2_with fail
    refine (HC.out _).mono ?_
    rintro e w' ⟨rfl, hb⟩
    go_wp2_with fail
    go_ret
    exact ⟨rfl, (HBA.out _).trans (hb.mono (HBA.out _).size)⟩
  by_cases h7 : op = 7
  · subst h7
    have HC : Hd (∀ o, Calls Tryz.prog 33 #[P, .string c, .iface T V, .bool fold] (w.alloc o) fun e w' => e = .returned (.bool (holdsB (if fold then low c else c) (if fold then low t else t))) ∧ Below (w.alloc o).heap.size (w.alloc o) w') := ⟨fun o => ccon_any P _ c t fold _ (HWW.out _ (HBA.out o)) HV.out hc⟩
    have HA : Hd (mAns EF c t fold 7 = !(holdsB (if fold then low c else c) (if fold then low t else t))) := ⟨rfl⟩
    obtain ⟨r, hr⟩ : ∃ r, r = (holdsB (if fold then low c else c) (if fold then low t else t)) := ⟨_, rfl⟩
    rw [← hr] at HC HA
    rw [HA.out]
    clear hr HA
    go_enter Tryz.func15, Tryz.ntmps15
    go_wp2_with fail
    refine (HC.out _).mono ?_
    rintro e w' ⟨rfl, hb⟩
    go_wp2_with fail
    go_ret
    exact ⟨rfl, (HBA.out _).trans (hb.mono (HBA.out _).size)⟩
  by_cases h8 : op = 8
  · subst h8
    have HC : Hd (∀ o, Calls Tryz.prog 34 #[P, .string c, .iface T V, .bool fold] (w.alloc o) fun e w' => e = .returned (.bool (preB (if fold then low c else c) (if fold then low t else t))) ∧ Below (w.alloc o).heap.size (w.alloc o) w') := ⟨fun o => cpre_any P _ c t fold _ (HWW.out _ (HBA.out o)) HV.out hc⟩
    have HA : Hd (mAns EF c t fold 8 = (preB (if fold then low c else c) (if fold then low t else t))) := ⟨rfl⟩
    obtain ⟨r, hr⟩ : ∃ r, r = (preB (if fold then low c else c) (if fold then low t else t)) := ⟨_, rfl⟩
    rw [← hr] at HC HA
    rw [HA.out]
    clear hr HA
    go_enter Tryz.func15, Tryz.ntmps15
    go_wp2_with fail
    refine (HC.out _).mono ?_
    rintro e w' ⟨rfl, hb⟩
    go_wp2_with fail
    go_ret
    exact ⟨rfl, (HBA.out _).trans (hb.mono (HBA.out _).size)⟩
  by_cases h9 : op = 9
  · subst h9
    have HC : Hd (∀ o, Calls Tryz.prog 35 #[P, .string c, .iface T V, .bool fold] (w.alloc o) fun e w' => e = .returned (.bool (sufB (if fold then low c else c) (if fold then low t else t))) ∧ Below (w.alloc o).heap.size (w.alloc o) w') := ⟨fun o => csuf_any P _ c t fold _ (HWW.out _ (HBA.out o)) HV.out hc⟩
    have HA : Hd (mAns EF c t fold 9 = (sufB (if fold then low c else c) (if fold then low t else t))) := ⟨rfl⟩
    obtain ⟨r, hr⟩ : ∃ r, r = (sufB (if fold then low c else c) (if fold then low t else t)) := ⟨_, rfl⟩
    rw [← hr] at HC HA
    rw [HA.out]
    clear hr HA
    go_enter Tryz.func15, Tryz.ntmps15
    go_wp2_with fail
    refine (HC.out _).mono ?_
    rintro e w' ⟨rfl, hb⟩
    go_wp2_with fail
    go_ret
    exact ⟨rfl, (HBA.out _).trans (hb.mono (HBA.out _).size)⟩
  have HA : Hd (mAns EF c t fold op = false) := ⟨mAns_other (by omega)⟩
  rw [HA.out]
  have b0 : (op == 0) = false := beq_eq_false_iff_ne.2 h0
  have b1 : (op == 1) = false := beq_eq_false_iff_ne.2 h1
  have b2 : (op == 2) = false := beq_eq_false_iff_ne.2 h2
  have b3 : (op == 3) = false := beq_eq_false_iff_ne.2 h3
  have b4 : (op == 4) = false := beq_eq_false_iff_ne.2 h4
  have b5 : (op == 5) = false := beq_eq_false_iff_ne.2 h5
  have b6 : (op == 6) = false := beq_eq_false_iff_ne.2 h6
  have b7 : (op == 7) = false := beq_eq_false_iff_ne.2 h7
  have b8 : (op == 8) = false := beq_eq_false_iff_ne.2 h8
  have b9 : (op == 9) = false := beq_eq_false_iff_ne.2 h9
  clear h0 h1 h2 h3 h4 h5 h6 h7 h8 h9 HA
  go_enter Tryz.func15, Tryz.ntmps15
  go_wp2_with fail
  go_ret
  exact ⟨rfl, HBA.out _⟩
set_option maxHeartbeats 1000000 in
set_option maxRecDepth 100000 in
theorem zzMatch_any {EF : ByteArray → ByteArray → Bool} (hEF : EFok EF) (vv : Value) (c t : ByteArray) (num op : Int) (fold : Bool) (w : World) (hW : Wd w) (hv : VText vv t) (hc : c.size ≤ 400) :
    Calls Tryz.prog 8 #[.string c, fltV num op vv fold] w fun e w' => e = .returned (.bool (mAns EF c t fold op)) ∧ Below w.heap.size w w' := by
  have HC : Hd (∀ W P, Below w.heap.size w W → Calls Tryz.prog 15 #[P, .string c, fltV num op vv fold] W fun e w' => e = .returned (.bool (mAns EF c t fold op)) ∧ Below w.heap.size w w') := ⟨fun W P hb => (mop_any hEF P vv c t num op fold W (hW.below hb) hv hc).mono fun e w' h => ⟨h.1, hb.trans (h.2.mono hb.size)⟩⟩
  obtain ⟨r, hr⟩ : ∃ r, r = mAns EF c t fold op := ⟨_, rfl⟩
  rw [← hr] at HC ⊢
  obtain ⟨T, V, rfl⟩ := hv.iface
  clear hv hW hEF hr
  show Calls Tryz.prog 8 #[.string c, .agg #[.string ⟨#[]⟩, .int .i64 num, .int .i64 op, .iface T V, .bool fold, .nilFunc]] w _
  go_enter Tryz.func8, Tryz.ntmps8
  go_wp2_with fail
  refine wp_build 66 #[] rfl (by kernel_rfl) ?_
  generalize (Tryz.prog.built 66 _).getD #[] = Z
  go_wp2_with fail
  refine (HC.out _ _ (((Below.refl _ _).alloc (Nat.le_refl _) _).alloc (by simp) _)).mono ?_
  rintro e w' ⟨rfl, hb⟩
  go_wp2_with fail
  go_ret
  exact ⟨rfl, hb⟩
/-- What a rule's value says. -/
structure KText (k : Int) (s : ByteArray) (n : Int) (t : ByteArray) : Prop where
  kind : (k = 0 ∧ t = s) ∨ (k = 1 ∧ tx t = dcm n)
  s400 : s.size ≤ 400
  n1 : -9223372036854775808 ≤ n
  n2 : n ≤ 9223372036854775807
theorem KText.v {k n : Int} {s t : ByteArray} (h : KText k s n t) : VText (cellV k s n) t := by
  have h1 := h.n1
  have h2 := h.n2
  rcases h.kind with ⟨rfl, rfl⟩ | ⟨rfl, h3⟩
  · exact ⟨.inl rfl, h.s400⟩
  · refine ⟨.inr ⟨n, rfl, h1, h2, h3⟩, ?_⟩
    have := dcm_len (n := n) (by omega)
    rw [← h3, tx_length] at this
    omega
set_option maxHeartbeats 1000000 in
set_option maxRecDepth 100000 in
theorem imatch_any {EF : ByteArray → ByteArray → Bool} (hEF : EFok EF) (c s t : ByteArray) (num op k n : Int) (fold : Bool) (w : World) (hW : Wd w) (hk : KText k s n t) (hc : c.size ≤ 400) :
    Calls Tryz.prog 5 #[.string c, .agg #[.int .i64 num, .int .i64 op, .int .i64 k, .string s, .int .i64 n, .bool fold]] w fun e w' => e = .returned (.bool (mAns EF c t fold op)) ∧ Below w.heap.size w w' := by
  have HF := Hd.mk (filter_any num op k s n fold)
  have HC : Hd (∀ W, Below w.heap.size w W → Calls Tryz.prog 8 #[.string c, fltV num op (cellV k s n) fold] W fun e w' => e = .returned (.bool (mAns EF c t fold op)) ∧ Below w.heap.size w w') := ⟨fun W hb => (zzMatch_any hEF _ c t num op fold W (hW.below hb) hk.v hc).mono fun e w' h => ⟨h.1, hb.trans (h.2.mono hb.size)⟩⟩
  obtain ⟨r, hr⟩ : ∃ r, r = mAns EF c t fold op := ⟨_, rfl⟩
  rw [← hr] at HC ⊢
  obtain ⟨F, hF⟩ : ∃ F, F = fltV num op (cellV k s n) fold := ⟨_, rfl⟩
  rw [← hF] at HC HF
  clear hW hEF hr hF hk
  go_enter Tryz.func5, Tryz.ntmps5
  go_wp2_with fail
  refine (HF.out _).mono ?_
  rintro e w' ⟨rfl, hb⟩
  have HB : Hd (Below w.heap.size w w') := ⟨((Below.refl _ _).alloc (Nat.le_refl _) _).trans (hb.mono (by simp))⟩
  clear hb
  go_wp2_with fail
  refine (HC.out _ HB.out).mono ?_
  rintro e w2 ⟨rfl, hb⟩
  go_wp2_with fail
  go_ret
  exact ⟨rfl, hb⟩
end Go.Proofs.YtknjgopapbemcaaGreatDoor
