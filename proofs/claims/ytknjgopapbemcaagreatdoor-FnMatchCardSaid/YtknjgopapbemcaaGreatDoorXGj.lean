/- Gj: joined by merge.py for the claim. -/
import Derived.Test.YtknjgopapbemcaaGreatDoorXGi
import Derived.Test.YtknjgopapbemcaaGreatDoorXPaPe
import Derived.Test.YtknjgopapbemcaaGreatDoorXLjLl
/- Walk of internal/strconv's readFloat. -/
namespace Go.Proofs.YtknjgopapbemcaaGreatDoor
open Go.RowKit
set_option linter.unusedVariables false
set_option linter.unusedSimpArgs false
/-- What readFloat tells of a number. -/
structure RfOk (l : List Nat) (m : Nat) (x : Int) (neg tr hex : Bool) (i : Nat) (n : Num) : Prop where
  un : uns (noSgn l) = some (n, l.drop i)
  il : i ≤ l.length
  em : m = mv n.hex n.ds
  eh : hex = n.hex
  en : neg = isNeg l
  et : tr = nz (n.ds.drop (mkx hex))
  ex : x = if m = 0 then 0 else if hex then hx n else ((n.ds.length : Int) - n.frac + n.e) - (min 19 n.ds.length : Nat)
  d16 : Dg 16 n.ds
  d10 : hex = false → Dg 10 n.ds
  len : n.ds.length ≤ 1000
  fr : n.frac ≤ 1000
  eb : -99999 ≤ n.e ∧ n.e ≤ 99999
  us : i = l.length → n.und = true → uOK l = true
def RfOut (l : List Nat) (e : Ending) : Prop :=
  (∃ a b c d f i, e = .returned (.tuple #[a, b, c, d, f, .int .i64 i, .bool false]) ∧ whole l = none) ∨
  (∃ (m : Nat) (x : Int) (neg tr hex : Bool) (i : Nat) (n : Num), e = .returned (.tuple #[.int .u64 (m : Int), .int .i64 x, .bool neg, .bool tr, .bool hex, .int .i64 (i : Int), .bool true]) ∧ RfOk l m x neg tr hex i n)
theorem results_tmp7 {fn : Func} {t0 t1 t2 t3 t4 t5 t6 : Tmp} (h : fn.results = #[.tmp t0, .tmp t1, .tmp t2, .tmp t3, .tmp t4, .tmp t5, .tmp t6]) (tmps : Array Value) (P : Program) (w : World) :
    (results fn tmps).run P w = .ok (.tuple #[tmps.getD t0 undef, tmps.getD t1 undef, tmps.getD t2 undef, tmps.getD t3 undef, tmps.getD t4 undef, tmps.getD t5 undef, tmps.getD t6 undef]) w := by
  simp [results, h, go_sem]
theorem room_lt {hex : Bool} {mt : Nat} (h : mt < if hex = true then 1152921504606846976 else 1000000000000000000) : mt * bs hex ≤ 18446744073709551600 := by
  cases hex
  · simp only [Bool.false_eq_true, if_false] at h; show mt * 10 ≤ _; omega
  · simp only [if_true] at h; show mt * 16 ≤ _; omega
theorem whole_uns {l : List Nat} (h : uns (noSgn l) = none) : whole l = none := by unfold whole; rw [h]
theorem whole_nil : whole [] = none := rfl
set_option maxHeartbeats 4000000 in
set_option maxRecDepth 100000 in
theorem rf_any (s : ByteArray) (w : World) (hs : s.size ≤ 1000) : Calls Tryz.prog 91 #[.string s] w fun e w' => RfOut (tx s) e ∧ w = w' := by
  by_cases hE : s = ByteArray.empty
  · subst hE
    go_enter Tryz.func91, Tryz.ntmps91
    go_wp2
    go_step3
    go_wp2
    try rw [Exit.noGoto_ret]
    refine bodyPost_ret (results_tmp7 rfl _ _ _) rfl ?_
    exact ⟨.inl ⟨_, _, _, _, _, _, rfl, rfl⟩, rfl⟩
  · have h0 : 0 < s.size := by
      rcases Nat.eq_zero_or_pos s.size with h | h
      · exact absurd (by cases s with | mk d => cases d with | mk l => cases l with | nil => rfl | cons a r => simp [ByteArray.size] at h) hE
      · exact h
    have hbt := Hd.mk (bt_get s 0 h0)
    go_enter Tryz.func91, Tryz.ntmps91
    go_wp2
    go_step3
    go_upto_region 3 with (fail)
    go_upto_block 0 with (fail)
    go_cut [4, 7] from 28 to 35 (fun v4 v7 wc => ∃ n0 : Nat, v4 = .bool (isNeg (tx s)) ∧ v7 = .int .i64 (n0 : Int) ∧ noSgn (tx s) = (tx s).drop n0 ∧ n0 ≤ s.size ∧ n0 ≤ 1 ∧ w = wc)
    case first =>
      have hng : Hd (isNeg (tx s) = decide (s[0].toNat = 45)) := ⟨by unfold isNeg; rw [← hbt.out]⟩
      have h01 : 1 ≤ s.size := h0
      by_cases h43 : s[0].toNat = 43
      · have hb1 : ((s[0].toNat : Int) == 43) = true := beq_iff_eq.2 (by omega)
        go_wp2
        go_meet
        exact ⟨1, by rw [hng.out, h43]; rfl, rfl, noSgn_drop (.inl (by rw [← hbt.out]; exact h43)), h0, Nat.le_refl _, rfl⟩
      · have hb1 : ((s[0].toNat : Int) == 43) = false := beq_eq_false_iff_ne.2 (by omega)
        by_cases h45 : s[0].toNat = 45
        · have hb2 : ((s[0].toNat : Int) == 45) = true := beq_iff_eq.2 (by omega)
          go_wp2
          go_meet
          exact ⟨1, by rw [hng.out, h45]; rfl, rfl, noSgn_drop (.inr (by rw [← hbt.out]; exact h45)), h0, Nat.le_refl _, rfl⟩
        · have hb2 : ((s[0].toNat : Int) == 45) = false := beq_eq_false_iff_ne.2 (by omega)
          go_wp2
          go_meet
          exact ⟨0, by rw [hng.out, decide_eq_false h45], rfl, by rw [List.drop_zero]; exact noSgn_same (by rw [← hbt.out]; exact h43) (by rw [← hbt.out]; exact h45), Nat.zero_le _, Nat.zero_le _, rfl⟩
    case rest =>
      obtain ⟨n0, rfl, rfl, hns, hn0, hn1, rfl⟩ := hcut
      have HNS := Hd.mk hns
      clear hns
      go_upto_region 12 with (fail)
      go_cut [54] from 36 to 54 (fun v54 wc => v54 = .bool (isHex (noSgn (tx s))) ∧ w = wc)
      case first =>
        by_cases h2 : n0 + 2 < s.size
        · have hlb : decide ((n0 : Int) + 2 < (s.size : Int)) = true := decide_eq_true (by omega)
          have hl0 : n0 < s.size := by omega
          have hl1 : n0 + 1 < s.size := by omega
          have h256 := UInt8.toNat_lt s[n0 + 1]
          have HP : Hd (isHex (noSgn (tx s)) = decide (s[n0].toNat = 48 ∧ lw s[n0 + 1].toNat = 120)) := by
            refine ⟨?_⟩
            unfold isHex
            rw [HNS.out, bt_drop, bt_drop, Nat.add_zero, ← bt_get s n0 hl0, ← bt_get s (n0 + 1) hl1, List.length_drop, tx_length]
            have : 2 < s.size - n0 := by omega
            simp [this]
          by_cases h3 : s[n0].toNat = 48
          · have hx0 : ((s[n0].toNat : Int) == 48) = true := beq_iff_eq.2 (by omega)
            by_cases h4 : lw s[n0 + 1].toNat = 120
            · have hx1 : ((lw s[n0 + 1].toNat : Int) == 120) = true := beq_iff_eq.2 (by omega)
              go_wp2_with (go_at_call 110; ((with_reducible refine (slow_any _ _ h256).mono ?_); rintro e' w' ⟨rfl, rfl⟩))
              go_meet
              exact ⟨by rw [HP.out, decide_eq_true ⟨h3, h4⟩], rfl⟩
            · have hx1 : ((lw s[n0 + 1].toNat : Int) == 120) = false := beq_eq_false_iff_ne.2 (by omega)
              go_wp2_with (go_at_call 110; ((with_reducible refine (slow_any _ _ h256).mono ?_); rintro e' w' ⟨rfl, rfl⟩))
              go_meet
              exact ⟨by rw [HP.out, decide_eq_false (fun h => h4 h.2)], rfl⟩
          · have hx0 : ((s[n0].toNat : Int) == 48) = false := beq_eq_false_iff_ne.2 (by omega)
            go_wp2
            go_meet
            exact ⟨by rw [HP.out, decide_eq_false (fun h => h3 h.1)], rfl⟩
        · have hlb : decide ((n0 : Int) + 2 < (s.size : Int)) = false := decide_eq_false (by omega)
          have hr : Hd (isHex (noSgn (tx s)) = false) := ⟨by unfold isHex; rw [HNS.out, List.length_drop, tx_length]; exact decide_eq_false (by omega)⟩
          go_wp2
          go_meet
          exact ⟨by rw [hr.out], rfl⟩
      case rest =>
        obtain ⟨rfl, rfl⟩ := hcut
        go_upto_if 54 with (fail)
        go_cut [6, 7, 10, 11, 12] from 54 to 56 (fun v6 v7 v10 v11 v12 wc => ∃ (hex : Bool) (i0 : Nat), v6 = .bool hex ∧ v7 = .int .i64 (i0 : Int) ∧ v10 = .int .u64 (bs hex : Nat) ∧ v11 = .int .i64 (mkx hex : Nat) ∧ v12 = .int .u8 (mark hex : Nat) ∧ Hd (uns (noSgn (tx s)) = body hex ((tx s).drop i0)) ∧ i0 ≤ s.size ∧ i0 ≤ 3 ∧ w = wc)
        case first =>
          generalize hh : isHex (noSgn (tx s)) = b
          have HH := Hd.mk hh
          clear hh
          cases b
          case true =>
            have hl2 : n0 + 2 < s.size := by have := HH.out; unfold isHex at this; rw [HNS.out, List.length_drop, tx_length] at this; simp at this; omega
            go_wp2
            go_meet
            exact ⟨true, n0 + 2, rfl, by go_num, rfl, rfl, rfl, ⟨by unfold uns; rw [if_pos HH.out, HNS.out, List.drop_drop]⟩, by omega, by omega, rfl⟩
          case false =>
            go_wp2
            go_meet
            exact ⟨false, n0, rfl, rfl, rfl, rfl, rfl, ⟨by unfold uns; rw [if_neg (by rw [HH.out]; simp), HNS.out]⟩, hn0, by omega, rfl⟩
        case rest =>
          obtain ⟨hex, i0, rfl, rfl, rfl, rfl, rfl, HU, hi0, hi3, rfl⟩ := hcut
          clear hn0 hn1 HNS
          go_wp2_with fail
          go_step3
          go_upto_block 1 with (fail)
          go_cut [2, 5, 7, 9, 13, 14, 15, 16, 17, 18] from 57 to 138 (fun v2 v5 v7 v9 v13 v14 v15 v16 v17 v18 wc => ∃ (i : Nat) (st : St) (mt : Nat) (tr : Bool) (dp : Int) (nm : Nat), v2 = .int .u64 (mt : Int) ∧ v5 = .bool tr ∧ v7 = .int .i64 (i : Int) ∧ v9 = .bool st.und ∧ v13 = .bool st.dot ∧ v14 = .bool st.dig ∧ v15 = .int .i64 (st.ds.length : Nat) ∧ v16 = .int .i64 (nm : Int) ∧ v17 = .int .i64 dp ∧ Hd (nm = min (mkx hex) st.ds.length) ∧ RfEnd hex ((tx s).drop i0) (tx s) i st mt tr dp ∧ w = wc)
          case first => as_aux_lemma =>
            go_wp2_with fail
            go_loopg [2, 5, 7, 9, 13, 14, 15, 16, 17, 18] (s.size - i0) (fun m v2 v5 v7 v9 v13 v14 v15 v16 v17 v18 wr => ∃ (i : Nat) (st : St) (mt : Nat) (tr : Bool) (dp : Int) (nm : Nat), v2 = .int .u64 (mt : Int) ∧ v5 = .bool tr ∧ v7 = .int .i64 (i : Int) ∧ v9 = .bool st.und ∧ v13 = .bool st.dot ∧ v14 = .bool st.dig ∧ v15 = .int .i64 (st.ds.length : Nat) ∧ v16 = .int .i64 (nm : Int) ∧ v17 = .int .i64 dp ∧ i + m = s.size ∧ Hd (nm = min (mkx hex) st.ds.length) ∧ RfInv hex ((tx s).drop i0) (tx s) i st mt tr dp ∧ w = wr)
            case atStart => exact ⟨i0, st0, 0, false, 0, 0, rfl, rfl, rfl, rfl, rfl, rfl, rfl, rfl, rfl, by omega, ⟨by cases hex <;> rfl⟩, rf_start (by rw [tx_length]; exact hi0), rfl⟩
            case round =>
              clear hi0 hi3
              obtain ⟨i, st, mt, tr, dp, nm, rfl, rfl, rfl, rfl, rfl, rfl, rfl, rfl, rfl, him, HNM0, HI, rfl⟩ := hrel
              cases gk with
              | zero =>
                obtain rfl : i = s.size := by omega
                go_wp2_with fail
                go_meet
                case rel => exact ⟨s.size, st, mt, tr, dp, nm, rfl, rfl, rfl, rfl, rfl, rfl, rfl, rfl, rfl, HNM0, HI.fin (by rw [tx_length]), rfl⟩
              | succ m =>
                have hlt : i < s.size := by omega
                have h256 := UInt8.toNat_lt s[i]
                have HBT := Hd.mk (bt_get s i hlt)
                by_cases h95 : s[i].toNat = 95
                · have hb1 : ((s[i].toNat : Int) == 95) = true := beq_iff_eq.2 (by omega)
                  go_wp2_with fail
                  go_roundg m
                  case measure => omega
                  case rel => exact ⟨i + 1, { st with und := true }, mt, tr, dp, nm, rfl, rfl, by go_num, rfl, rfl, rfl, rfl, rfl, rfl, by omega, HNM0, HI.undS (by rw [tx_length]; exact hlt) HBT.out h95, rfl⟩
                · have hb1 : ((s[i].toNat : Int) == 95) = false := beq_eq_false_iff_ne.2 (by omega)
                  obtain ⟨ds, frac, dot, dig, und⟩ := st
                  have hnm := HNM0.out
                  have hdpb := HI.dpb
                  have hmt64 : mt < 18446744073709551616 := by rw [HI.mt]; exact (mv_lt HI.d16 HI.d10).1
                  have hdsl : ds.length ≤ i := HI.len
                  simp only at hnm
                  by_cases h46 : s[i].toNat = 46
                  · have hb2 : ((s[i].toNat : Int) == 46) = true := beq_iff_eq.2 (by omega)
                    have HII := Hd.mk HI
                    clear HI hnm
                    cases dot
                    case true =>
                      go_wp2_with fail
                      go_meet
                      case rel => exact ⟨i, ⟨ds, frac, true, dig, und⟩, mt, tr, dp, nm, rfl, rfl, rfl, rfl, rfl, rfl, rfl, rfl, rfl, HNM0, HII.out.stopS (by rw [tx_length]; exact hlt) HBT.out h95 (fun _ => rfl) (by rw [h46]; exact dval_46 hex), rfl⟩
                    case false =>
                      go_wp2_with fail
                      go_roundg m
                      case measure => omega
                      case rel => exact ⟨i + 1, ⟨ds, frac, true, dig, und⟩, mt, tr, (ds.length : Int), nm, rfl, rfl, by go_num, rfl, rfl, rfl, rfl, rfl, rfl, by omega, HNM0, HII.out.dotS (by rw [tx_length]; exact hlt) HBT.out h46 rfl, rfl⟩
                  · have hb2 : ((s[i].toNat : Int) == 46) = false := beq_eq_false_iff_ne.2 (by omega)
                    by_cases hd : 48 ≤ s[i].toNat ∧ s[i].toNat ≤ 57
                    · have hb3 : (48 : Int) ≤ (s[i].toNat : Int) := by omega
                      have hb4 : (s[i].toNat : Int) ≤ 57 := by omega
                      have hdv : dval hex s[i].toNat = some (s[i].toNat - 48) := dval_c hd
                      by_cases hlead : s[i].toNat = 48 ∧ ds = []
                      · obtain ⟨h48, hnil⟩ := hlead
                        subst hnil
                        have hb48 : ((s[i].toNat : Int) == 48) = true := beq_iff_eq.2 (by omega)
                        have HII := Hd.mk HI
                        clear HI hnm
                        go_wp2_with fail
                        go_roundg m
                        case measure => omega
                        case rel => exact ⟨i + 1, ⟨[], if dot then frac + 1 else frac, dot, true, und⟩, mt, tr, dp - 1, nm, rfl, rfl, by go_num, rfl, rfl, rfl, rfl, rfl, rfl, by omega, HNM0, HII.out.zero (by rw [tx_length]; exact hlt) HBT.out h48, rfl⟩
                      · have HNZ : Hd (0 < ds.length ∨ s[i].toNat - 48 ≠ 0) := ⟨by
                          by_cases hnil : ds = []
                          · right; have : s[i].toNat ≠ 48 := fun h => hlead ⟨h, hnil⟩
                            omega
                          · left; exact List.length_pos_iff.2 hnil⟩
                        clear hlead
                        have hlz : (((s[i].toNat : Int) == 48) = false) ∨ (((s[i].toNat : Int) == 48) = true ∧ ((ds.length : Int) == 0) = false) := by
                          by_cases h48 : s[i].toNat = 48
                          · right; exact ⟨beq_iff_eq.2 (by omega), beq_eq_false_iff_ne.2 (by have := HNZ.out; omega)⟩
                          · left; exact beq_eq_false_iff_ne.2 (by omega)
                        rcases hlz with hb48 | ⟨hb48, hbn0⟩
                        · skip
                          have HNM := Hd.mk hnm
                          by_cases hroom : ds.length < mkx hex
                          · have hnl : nm < mkx hex := by omega
                            have hrb : decide (nm < mkx hex) = true := decide_eq_true (by omega)
                            obtain ⟨z, hz⟩ : ∃ z, z = mt * bs hex := ⟨_, rfl⟩
                            have hmr := mv_room HI.d16 HI.d10 hroom
                            rw [← HI.mt] at hmr
                            have hzl : z ≤ 18446744073709551600 := by rw [hz]; exact room_lt hmr
                            have hnm1000 : nm ≤ 1000 := by omega
                            have hmul : (mt : Int) * ((bs hex : Nat) : Int) = (z : Int) := by rw [hz, Int.natCast_mul]
                            have HZ := Hd.mk hz
                            have HII := Hd.mk HI
                            clear hz HI hmr hnm
                            go_wp2_with fail
                            go_roundg m
                            case measure => omega
                            case rel => exact ⟨i + 1, ⟨ds ++ [(s[i].toNat - 48)], if dot then frac + 1 else frac, dot, true, und⟩, z + (s[i].toNat - 48), tr, dp, nm + 1, by go_num, rfl, by go_num, rfl, rfl, rfl, by rw [List.length_append, List.length_singleton]; go_num, by go_num, rfl, by omega, ⟨by show nm + 1 = min (mkx hex) (ds ++ [_]).length; rw [List.length_append, List.length_singleton]; have := HNM.out; omega⟩, HII.out.digS (by rw [tx_length]; exact hlt) HBT.out h95 hdv HNZ.out (.inl ⟨hroom, by rw [HZ.out, Nat.mul_comm], rfl⟩), rfl⟩
                          · have hrb : decide (nm < mkx hex) = false := decide_eq_false (by omega)
                            have HII := Hd.mk HI
                            clear HI hnm
                            have h48 : s[i].toNat ≠ 48 := by have := beq_eq_false_iff_ne.1 hb48; omega
                            have hb48n : ((s[i].toNat : Int) != 48) = true := by rw [bne, hb48]; rfl
                            go_wp2_with fail
                            go_roundg m
                            case measure => omega
                            case rel => exact ⟨i + 1, ⟨ds ++ [s[i].toNat - 48], if dot then frac + 1 else frac, dot, true, und⟩, mt, true, dp, nm, rfl, rfl, by go_num, rfl, rfl, rfl, by rw [List.length_append, List.length_singleton]; go_num, rfl, rfl, by omega, ⟨by show nm = min (mkx hex) (ds ++ [_]).length; rw [List.length_append, List.length_singleton]; have := HNM.out; omega⟩, HII.out.digS (by rw [tx_length]; exact hlt) HBT.out h95 hdv HNZ.out (.inr ⟨by omega, rfl, by rw [bne_iff_ne.2 (show s[i].toNat - 48 ≠ 0 by omega), Bool.or_true]⟩), rfl⟩
                        · skip
                          have HNM := Hd.mk hnm
                          by_cases hroom : ds.length < mkx hex
                          · have hnl : nm < mkx hex := by omega
                            have hrb : decide (nm < mkx hex) = true := decide_eq_true (by omega)
                            obtain ⟨z, hz⟩ : ∃ z, z = mt * bs hex := ⟨_, rfl⟩
                            have hmr := mv_room HI.d16 HI.d10 hroom
                            rw [← HI.mt] at hmr
                            have hzl : z ≤ 18446744073709551600 := by rw [hz]; exact room_lt hmr
                            have hnm1000 : nm ≤ 1000 := by omega
                            have hmul : (mt : Int) * ((bs hex : Nat) : Int) = (z : Int) := by rw [hz, Int.natCast_mul]
                            have HZ := Hd.mk hz
                            have HII := Hd.mk HI
                            clear hz HI hmr hnm
                            go_wp2_with fail
                            go_roundg m
                            case measure => omega
                            case rel => exact ⟨i + 1, ⟨ds ++ [(s[i].toNat - 48)], if dot then frac + 1 else frac, dot, true, und⟩, z + (s[i].toNat - 48), tr, dp, nm + 1, by go_num, rfl, by go_num, rfl, rfl, rfl, by rw [List.length_append, List.length_singleton]; go_num, by go_num, rfl, by omega, ⟨by show nm + 1 = min (mkx hex) (ds ++ [_]).length; rw [List.length_append, List.length_singleton]; have := HNM.out; omega⟩, HII.out.digS (by rw [tx_length]; exact hlt) HBT.out h95 hdv HNZ.out (.inl ⟨hroom, by rw [HZ.out, Nat.mul_comm], rfl⟩), rfl⟩
                          · have hrb : decide (nm < mkx hex) = false := decide_eq_false (by omega)
                            have HII := Hd.mk HI
                            clear HI hnm
                            have h48 : s[i].toNat = 48 := by have := beq_iff_eq.1 hb48; omega
                            have hb48n : ((s[i].toNat : Int) != 48) = false := by rw [bne, hb48]; rfl
                            go_wp2_with fail
                            go_roundg m
                            case measure => omega
                            case rel => exact ⟨i + 1, ⟨ds ++ [s[i].toNat - 48], if dot then frac + 1 else frac, dot, true, und⟩, mt, tr, dp, nm, rfl, rfl, by go_num, rfl, rfl, rfl, by rw [List.length_append, List.length_singleton]; go_num, rfl, rfl, by omega, ⟨by show nm = min (mkx hex) (ds ++ [_]).length; rw [List.length_append, List.length_singleton]; have := HNM.out; omega⟩, HII.out.digS (by rw [tx_length]; exact hlt) HBT.out h95 hdv HNZ.out (.inr ⟨by omega, rfl, by rw [h48]; simp⟩), rfl⟩
                    · by_cases hlet : hex = true ∧ 97 ≤ lw s[i].toNat ∧ lw s[i].toNat ≤ 102
                      · obtain ⟨hhex, hl1, hl2⟩ := hlet
                        subst hhex
                        have hdv : dval true s[i].toNat = some (lw s[i].toNat - 87) := dval_l hd ⟨hl1, hl2⟩
                        have HNZ : Hd (0 < ds.length ∨ lw s[i].toNat - 87 ≠ 0) := ⟨.inr (by omega)⟩
                        have hb16 : (((bs true : Nat) : Int) == 16) = true := by rfl
                        have hl256 := lw_lt _ h256
                        have hl1i : (97 : Int) ≤ (lw s[i].toNat : Int) := by omega
                        have hl2i : (lw s[i].toNat : Int) ≤ 102 := by omega
                        by_cases h48 : (48 : Int) ≤ (s[i].toNat : Int)
                        · have h57 : ¬ (s[i].toNat : Int) ≤ 57 := by omega
                          have HNM := Hd.mk hnm
                          by_cases hroom : ds.length < mkx true
                          · have hnl : nm < mkx true := by omega
                            have hrb : decide (nm < mkx true) = true := decide_eq_true (by omega)
                            obtain ⟨z, hz⟩ : ∃ z, z = mt * bs true := ⟨_, rfl⟩
                            have hmr := mv_room HI.d16 HI.d10 hroom
                            rw [← HI.mt] at hmr
                            have hzl : z ≤ 18446744073709551600 := by rw [hz]; exact room_lt hmr
                            have hnm1000 : nm ≤ 1000 := by omega
                            have hmul : (mt : Int) * ((bs true : Nat) : Int) = (z : Int) := by rw [hz, Int.natCast_mul]
                            have hmul16 : (mt : Int) * 16 = (z : Int) := by rw [hz]; show _ = ((mt * 16 : Nat) : Int); omega
                            have HZ := Hd.mk hz
                            have HII := Hd.mk HI
                            clear hz HI hmr hnm
                            go_wp2_with (go_at_call 110; ((with_reducible refine (slow_any _ _ h256).mono ?_); rintro e' w' ⟨rfl, rfl⟩))
                            go_roundg m
                            case measure => omega
                            case rel => exact ⟨i + 1, ⟨ds ++ [(lw s[i].toNat - 87)], if dot then frac + 1 else frac, dot, true, und⟩, z + (lw s[i].toNat - 87), tr, dp, nm + 1, by go_num, rfl, by go_num, rfl, rfl, rfl, by rw [List.length_append, List.length_singleton]; go_num, by go_num, rfl, by omega, ⟨by show nm + 1 = min (mkx true) (ds ++ [_]).length; rw [List.length_append, List.length_singleton]; have := HNM.out; omega⟩, HII.out.digS (by rw [tx_length]; exact hlt) HBT.out h95 hdv HNZ.out (.inl ⟨hroom, by rw [HZ.out, Nat.mul_comm], rfl⟩), rfl⟩
                          · have hrb : decide (nm < mkx true) = false := decide_eq_false (by omega)
                            have HII := Hd.mk HI
                            clear HI hnm
                            go_wp2_with (go_at_call 110; ((with_reducible refine (slow_any _ _ h256).mono ?_); rintro e' w' ⟨rfl, rfl⟩))
                            go_roundg m
                            case measure => omega
                            case rel => exact ⟨i + 1, ⟨ds ++ [lw s[i].toNat - 87], if dot then frac + 1 else frac, dot, true, und⟩, mt, true, dp, nm, rfl, rfl, by go_num, rfl, rfl, rfl, by rw [List.length_append, List.length_singleton]; go_num, rfl, rfl, by omega, ⟨by show nm = min (mkx true) (ds ++ [_]).length; rw [List.length_append, List.length_singleton]; have := HNM.out; omega⟩, HII.out.digS (by rw [tx_length]; exact hlt) HBT.out h95 hdv HNZ.out (.inr ⟨by omega, rfl, by rw [bne_iff_ne.2 (show lw s[i].toNat - 87 ≠ 0 by omega), Bool.or_true]⟩), rfl⟩
                        · skip
                          have HNM := Hd.mk hnm
                          by_cases hroom : ds.length < mkx true
                          · have hnl : nm < mkx true := by omega
                            have hrb : decide (nm < mkx true) = true := decide_eq_true (by omega)
                            obtain ⟨z, hz⟩ : ∃ z, z = mt * bs true := ⟨_, rfl⟩
                            have hmr := mv_room HI.d16 HI.d10 hroom
                            rw [← HI.mt] at hmr
                            have hzl : z ≤ 18446744073709551600 := by rw [hz]; exact room_lt hmr
                            have hnm1000 : nm ≤ 1000 := by omega
                            have hmul : (mt : Int) * ((bs true : Nat) : Int) = (z : Int) := by rw [hz, Int.natCast_mul]
                            have hmul16 : (mt : Int) * 16 = (z : Int) := by rw [hz]; show _ = ((mt * 16 : Nat) : Int); omega
                            have HZ := Hd.mk hz
                            have HII := Hd.mk HI
                            clear hz HI hmr hnm
                            go_wp2_with (go_at_call 110; ((with_reducible refine (slow_any _ _ h256).mono ?_); rintro e' w' ⟨rfl, rfl⟩))
                            go_roundg m
                            case measure => omega
                            case rel => exact ⟨i + 1, ⟨ds ++ [(lw s[i].toNat - 87)], if dot then frac + 1 else frac, dot, true, und⟩, z + (lw s[i].toNat - 87), tr, dp, nm + 1, by go_num, rfl, by go_num, rfl, rfl, rfl, by rw [List.length_append, List.length_singleton]; go_num, by go_num, rfl, by omega, ⟨by show nm + 1 = min (mkx true) (ds ++ [_]).length; rw [List.length_append, List.length_singleton]; have := HNM.out; omega⟩, HII.out.digS (by rw [tx_length]; exact hlt) HBT.out h95 hdv HNZ.out (.inl ⟨hroom, by rw [HZ.out, Nat.mul_comm], rfl⟩), rfl⟩
                          · have hrb : decide (nm < mkx true) = false := decide_eq_false (by omega)
                            have HII := Hd.mk HI
                            clear HI hnm
                            go_wp2_with (go_at_call 110; ((with_reducible refine (slow_any _ _ h256).mono ?_); rintro e' w' ⟨rfl, rfl⟩))
                            go_roundg m
                            case measure => omega
                            case rel => exact ⟨i + 1, ⟨ds ++ [lw s[i].toNat - 87], if dot then frac + 1 else frac, dot, true, und⟩, mt, true, dp, nm, rfl, rfl, by go_num, rfl, rfl, rfl, by rw [List.length_append, List.length_singleton]; go_num, rfl, rfl, by omega, ⟨by show nm = min (mkx true) (ds ++ [_]).length; rw [List.length_append, List.length_singleton]; have := HNM.out; omega⟩, HII.out.digS (by rw [tx_length]; exact hlt) HBT.out h95 hdv HNZ.out (.inr ⟨by omega, rfl, by rw [bne_iff_ne.2 (show lw s[i].toNat - 87 ≠ 0 by omega), Bool.or_true]⟩), rfl⟩
                      · have hdv : dval hex s[i].toNat = none := dval_n hd hlet
                        have HII := Hd.mk HI
                        clear HI hnm
                        have hst : Hd (RfEnd hex ((tx s).drop i0) (tx s) i ⟨ds, frac, dot, dig, und⟩ mt tr dp) := ⟨HII.out.stopS (by rw [tx_length]; exact hlt) HBT.out h95 (fun h => absurd h h46) hdv⟩
                        clear HII
                        cases hhx : hex
                        case false =>
                          have hb16 : (((bs false : Nat) : Int) == 16) = false := by rfl
                          subst hhx
                          by_cases h48 : (48 : Int) ≤ (s[i].toNat : Int)
                          · have h57 : ¬ (s[i].toNat : Int) ≤ 57 := by omega
                            go_wp2_with fail
                            go_meet
                            case rel => exact ⟨i, ⟨ds, frac, dot, dig, und⟩, mt, tr, dp, nm, rfl, rfl, rfl, rfl, rfl, rfl, rfl, rfl, rfl, HNM0, hst.out, rfl⟩
                          · go_wp2_with fail
                            go_meet
                            case rel => exact ⟨i, ⟨ds, frac, dot, dig, und⟩, mt, tr, dp, nm, rfl, rfl, rfl, rfl, rfl, rfl, rfl, rfl, rfl, HNM0, hst.out, rfl⟩
                        case true =>
                          have hb16 : (((bs true : Nat) : Int) == 16) = true := by rfl
                          subst hhx
                          have hl256 := lw_lt _ h256
                          by_cases hl1 : (97 : Int) ≤ (lw s[i].toNat : Int)
                          · have hl2 : ¬ (lw s[i].toNat : Int) ≤ 102 := by intro h; exact hlet ⟨rfl, by omega, by omega⟩
                            have hl3 : decide ((lw s[i].toNat : Int) ≤ 102) = false := decide_eq_false hl2
                            by_cases h48 : (48 : Int) ≤ (s[i].toNat : Int)
                            · have h57 : ¬ (s[i].toNat : Int) ≤ 57 := by omega
                              go_wp2_with (go_at_call 110; ((with_reducible refine (slow_any _ _ h256).mono ?_); rintro e' w' ⟨rfl, rfl⟩))
                              go_meet
                              case rel => exact ⟨i, ⟨ds, frac, dot, dig, und⟩, mt, tr, dp, nm, rfl, rfl, rfl, rfl, rfl, rfl, rfl, rfl, rfl, HNM0, hst.out, rfl⟩
                            · go_wp2_with (go_at_call 110; ((with_reducible refine (slow_any _ _ h256).mono ?_); rintro e' w' ⟨rfl, rfl⟩))
                              go_meet
                              case rel => exact ⟨i, ⟨ds, frac, dot, dig, und⟩, mt, tr, dp, nm, rfl, rfl, rfl, rfl, rfl, rfl, rfl, rfl, rfl, HNM0, hst.out, rfl⟩
                          · by_cases h48 : (48 : Int) ≤ (s[i].toNat : Int)
                            · have h57 : ¬ (s[i].toNat : Int) ≤ 57 := by omega
                              go_wp2_with (go_at_call 110; ((with_reducible refine (slow_any _ _ h256).mono ?_); rintro e' w' ⟨rfl, rfl⟩))
                              go_meet
                              case rel => exact ⟨i, ⟨ds, frac, dot, dig, und⟩, mt, tr, dp, nm, rfl, rfl, rfl, rfl, rfl, rfl, rfl, rfl, rfl, HNM0, hst.out, rfl⟩
                            · go_wp2_with (go_at_call 110; ((with_reducible refine (slow_any _ _ h256).mono ?_); rintro e' w' ⟨rfl, rfl⟩))
                              go_meet
                              case rel => exact ⟨i, ⟨ds, frac, dot, dig, und⟩, mt, tr, dp, nm, rfl, rfl, rfl, rfl, rfl, rfl, rfl, rfl, rfl, HNM0, hst.out, rfl⟩
          case rest => as_aux_lemma =>
            obtain ⟨i, st, mt, tr, dp, nm, rfl, rfl, rfl, rfl, rfl, rfl, rfl, rfl, rfl, HNM, HE, rfl⟩ := hcut
            have H := Hd.mk HE
            have hil : i ≤ s.size := by have := HE.inv.il; rw [tx_length] at this; exact this
            have hmt64 : mt < 18446744073709551616 := by rw [HE.inv.mt]; exact (mv_lt HE.inv.d16 HE.inv.d10).1
            have hfr := HE.inv.fr
            have hlen := HE.inv.len
            have hdpb := HE.inv.dpb
            have hnm20 : nm ≤ 1000 := by have := HNM.out; omega
            clear HE hi0 hi3
            obtain ⟨ds, frac, dot, dig, und⟩ := st
            simp only at hfr hlen
            have HNM2 : Hd (nm = min (mkx hex) ds.length) := HNM
            clear HNM
            cases dig
            case false =>
              go_wp2_with fail
              try rw [Exit.noGoto_ret]
              refine bodyPost_ret (results_tmp7 rfl _ _ _) rfl ?_
              exact ⟨.inl ⟨_, _, _, _, _, _, rfl, whole_uns (by rw [HU.out, bodyG_nodig H.out.stop rfl])⟩, rfl⟩
            case true =>
              go_upto_if 142 with (fail)
              obtain ⟨dp2, hdp2⟩ : ∃ d : Int, d = (ds.length : Int) - frac := ⟨_, rfl⟩
              have HDP2 := Hd.mk hdp2
              have hdp2b : -1000 ≤ dp2 ∧ dp2 ≤ 1000 := by omega
              clear hdp2
              go_cut [17] from 142 to 143 (fun v17 wc => v17 = .int .i64 dp2 ∧ w = wc)
              case first =>
                have hd1 := H.out.inv.dpd
                have hd2 := H.out.inv.dpn
                simp only at hd1 hd2
                cases dot
                case true =>
                  have h1 : Hd (dp = dp2) := ⟨by rw [HDP2.out]; exact hd1 rfl⟩
                  clear hd1 hd2
                  go_wp2
                  go_meet
                  exact ⟨by rw [h1.out], rfl⟩
                case false =>
                  have h1 : Hd ((ds.length : Int) = dp2) := ⟨by rw [HDP2.out]; have := hd2 rfl; omega⟩
                  clear hd1 hd2
                  go_wp2
                  go_meet
                  exact ⟨by rw [h1.out], rfl⟩
              case rest =>
                obtain ⟨rfl, rfl⟩ := hcut
                go_upto_if 145 with (fail)
                go_cut [16, 17] from 144 to 149 (fun v16 v17 wc => ∃ (a b : Int), v16 = .int .i64 a ∧ v17 = .int .i64 b ∧ Hd (a = if hex then 4 * (nm : Int) else nm) ∧ Hd (b = if hex then 4 * dp2 else dp2) ∧ -5000 ≤ a ∧ a ≤ 5000 ∧ -5000 ≤ b ∧ b ≤ 5000 ∧ w = wc)
                case first =>
                  cases hex
                  case true =>
                    have hb16 : (((bs true : Nat) : Int) == 16) = true := by rfl
                    go_wp2
                    go_meet
                    exact ⟨(nm : Int) * 4, dp2 * 4, rfl, rfl, ⟨by simp; omega⟩, ⟨by simp; omega⟩, by omega, by omega, by omega, by omega, rfl⟩
                  case false =>
                    have hb16 : (((bs false : Nat) : Int) == 16) = false := by rfl
                    go_wp2
                    go_meet
                    exact ⟨(nm : Int), dp2, rfl, rfl, ⟨by simp⟩, ⟨by simp⟩, by omega, by omega, by omega, by omega, rfl⟩
                case rest =>
                  obtain ⟨a, b, rfl, rfl, HA, HB, ha1, ha2, hb1, hb2, rfl⟩ := hcut
                  go_upto_region 57 with (fail)
                  go_cut [161] from 150 to 161 (fun v161 wc => v161 = .bool (decide (lw (bt (tx s) i) = mark hex)) ∧ w = wc)
                  case first =>
                    by_cases hlt : i < s.size
                    · have h256 := UInt8.toNat_lt s[i]
                      have HBT := Hd.mk (bt_get s i hlt)
                      by_cases hm : lw s[i].toNat = mark hex
                      · have hmb : ((lw s[i].toNat : Int) == (mark hex : Int)) = true := beq_iff_eq.2 (by omega)
                        go_wp2_with (go_at_call 110; ((with_reducible refine (slow_any _ _ h256).mono ?_); rintro e' w' ⟨rfl, rfl⟩))
                        go_meet
                        exact ⟨by rw [← HBT.out, decide_eq_true hm], rfl⟩
                      · have hmb : ((lw s[i].toNat : Int) == (mark hex : Int)) = false := beq_eq_false_iff_ne.2 (by omega)
                        go_wp2_with (go_at_call 110; ((with_reducible refine (slow_any _ _ h256).mono ?_); rintro e' w' ⟨rfl, rfl⟩))
                        go_meet
                        exact ⟨by rw [← HBT.out, decide_eq_false hm], rfl⟩
                    · have hz : Hd (decide (lw (bt (tx s) i) = mark hex) = false) := by
                        refine ⟨?_⟩
                        rw [bt_end (by rw [tx_length]; omega)]
                        cases hex <;> decide
                      go_wp2
                      go_meet
                      exact ⟨by rw [hz.out], rfl⟩
                  case rest =>
                    obtain ⟨rfl, rfl⟩ := hcut
                    go_upto_if 161 with (fail)
                    go_cut [7, 9, 17, 19, 20] from 161 to 239 (fun v7 v9 v17 v19 v20 wc => ∃ (k : Nat) (e : Int) (u : Bool), v7 = .int .i64 (k : Int) ∧ v9 = .bool (und || u) ∧ v17 = .int .i64 (b + e) ∧ k ≤ s.size ∧ -99999 ≤ e ∧ e ≤ 99999 ∧ Hd (body hex ((tx s).drop i0) = some (⟨hex, ds, frac, e, und || u⟩, (tx s).drop k)) ∧ w = wc)
                    case first => as_aux_lemma =>
                      generalize hmk : decide (lw (bt (tx s) i) = mark hex) = bb
                      cases bb
                      case false =>
                        have hmn : Hd (lw (bt (tx s) i) ≠ mark hex) := ⟨of_decide_eq_false hmk⟩
                        clear hmk
                        cases hex
                        case true =>
                          have hb16 : (((bs true : Nat) : Int) == 16) = true := by rfl
                          go_wp2_with fail
                          try rw [Exit.noGoto_ret]
                          refine bodyPost_ret (results_tmp7 rfl _ _ _) rfl ?_
                          exact ⟨.inl ⟨_, _, _, _, _, _, rfl, whole_uns (by rw [HU.out, bodyG_hexno H.out.stop rfl hmn.out])⟩, rfl⟩
                        case false =>
                          have hb16 : (((bs false : Nat) : Int) == 16) = false := by rfl
                          go_wp2_with fail
                          go_meet
                          case rel => exact ⟨i, 0, false, rfl, by rw [Bool.or_false], by rw [Int.add_zero], hil, by omega, by omega, ⟨by rw [bodyG_dec H.out.stop rfl hmn.out, Bool.or_false]⟩, rfl⟩
                      case true =>
                        have hmy : Hd (lw (bt (tx s) i) = mark hex) := ⟨of_decide_eq_true hmk⟩
                        clear hmk
                        have hlt : i < s.size := by
                          have := bt_in (l := tx s) (k := i) (by intro e; have := hmy.out; rw [e] at this; cases hex <;> revert this <;> decide)
                          rw [tx_length] at this; exact this
                        obtain ⟨k, hk⟩ : ∃ k, k = i + 1 := ⟨_, rfl⟩
                        have HK := Hd.mk hk
                        have hk1 : k ≤ s.size := by omega
                        have hik : (i : Int) + 1 = (k : Int) := by omega
                        clear hk
                        by_cases hend : k = s.size
                        · have hle : decide (s.size ≤ k) = true := decide_eq_true (by omega)
                          have hno : Hd (ex ((tx s).drop (i + 1)) = none) := ⟨by rw [← HK.out]; exact ex_no (by unfold sk; rw [if_neg (by rw [bt_out (by rw [tx_length]; omega)]; omega), bt_out (by rw [tx_length]; omega)]; omega)⟩
                          have HEND := Hd.mk hend
                          clear hend
                          go_wp2_with fail
                          try rw [Exit.noGoto_ret]
                          refine bodyPost_ret (results_tmp7 rfl _ _ _) rfl ?_
                          exact ⟨.inl ⟨_, _, _, _, _, _, rfl, whole_uns (by rw [HU.out, bodyG_exno H.out.stop rfl hmy.out hno.out])⟩, rfl⟩
                        · have hkl : k < s.size := by omega
                          have hle : decide (s.size ≤ k) = false := decide_eq_false (by omega)
                          have HBT := Hd.mk (bt_get s k hkl)
                          have h256 := UInt8.toNat_lt s[k]
                          go_upto_region 61 with (fail)
                          go_upto_block 4 with (fail)
                          go_cut [7, 19] from 171 to 178 (fun v7 v19 wc => v7 = .int .i64 (sk (tx s) k : Nat) ∧ v19 = .int .i64 (if bt (tx s) k = 45 then -1 else 1) ∧ w = wc)
                          case first =>
                            by_cases h43 : s[k].toNat = 43
                            · have hb1 : ((s[k].toNat : Int) == 43) = true := beq_iff_eq.2 (by omega)
                              have hs1 : Hd (sk (tx s) k = k + 1) := ⟨by unfold sk; rw [if_pos (.inl (by rw [← HBT.out]; exact h43))]⟩
                              go_wp2
                              go_meet
                              exact ⟨by rw [hs1.out]; go_num, by rw [if_neg (by rw [← HBT.out]; omega)], rfl⟩
                            · have hb1 : ((s[k].toNat : Int) == 43) = false := beq_eq_false_iff_ne.2 (by omega)
                              by_cases h45 : s[k].toNat = 45
                              · have hb2 : ((s[k].toNat : Int) == 45) = true := beq_iff_eq.2 (by omega)
                                have hs1 : Hd (sk (tx s) k = k + 1) := ⟨by unfold sk; rw [if_pos (.inr (by rw [← HBT.out]; exact h45))]⟩
                                go_wp2
                                go_meet
                                exact ⟨by rw [hs1.out]; go_num, by rw [if_pos (by rw [← HBT.out]; exact h45)], rfl⟩
                              · have hb2 : ((s[k].toNat : Int) == 45) = false := beq_eq_false_iff_ne.2 (by omega)
                                have hs1 : Hd (sk (tx s) k = k) := ⟨by unfold sk; rw [if_neg (by rw [← HBT.out]; omega)]⟩
                                go_wp2
                                go_meet
                                exact ⟨by rw [hs1.out], by rw [if_neg (by rw [← HBT.out]; exact h45)], rfl⟩
                          case rest =>
                            obtain ⟨rfl, rfl, rfl⟩ := hcut
                            clear HBT h256
                            obtain ⟨j, hj⟩ : ∃ j, j = sk (tx s) k := ⟨_, rfl⟩
                            rw [← hj]
                            have hj1 : j ≤ s.size := by rw [hj]; unfold sk; split <;> omega
                            have HJ := Hd.mk hj
                            clear hj
                            obtain ⟨es, hes⟩ : ∃ es : Int, es = if bt (tx s) k = 45 then -1 else 1 := ⟨_, rfl⟩
                            rw [← hes]
                            have hes1 : es = -1 ∨ es = 1 := by rw [hes]; split <;> simp
                            have HES := Hd.mk hes
                            have HES1 := Hd.mk hes1
                            clear hes hes1
                            go_upto_region 67 with (fail)
                            go_cut [194] from 179 to 194 (fun v194 wc => v194 = .bool (decide (¬ (48 ≤ bt (tx s) j ∧ bt (tx s) j ≤ 57))) ∧ w = wc)
                            case first =>
                              by_cases hl1 : j < s.size
                              · have hle : decide (s.size ≤ j) = false := decide_eq_false (by omega)
                                have HBT := Hd.mk (bt_get s j hl1)
                                by_cases h48 : (s[j].toNat : Int) < 48
                                · have hb3 : decide ((s[j].toNat : Int) < 48) = true := decide_eq_true h48
                                  go_wp2_with fail
                                  go_meet
                                  exact ⟨by rw [← HBT.out, decide_eq_true (by omega)], rfl⟩
                                · have hb3 : decide ((s[j].toNat : Int) < 48) = false := decide_eq_false h48
                                  by_cases h57 : (57 : Int) < (s[j].toNat : Int)
                                  · have hb : decide ((57 : Int) < (s[j].toNat : Int)) = true := decide_eq_true h57
                                    go_wp2_with fail
                                    go_meet
                                    exact ⟨by rw [← HBT.out, decide_eq_true (by omega)], rfl⟩
                                  · have hb : decide ((57 : Int) < (s[j].toNat : Int)) = false := decide_eq_false h57
                                    go_wp2_with fail
                                    go_meet
                                    exact ⟨by rw [← HBT.out, decide_eq_false (by omega)], rfl⟩
                              · have hle : decide (s.size ≤ j) = true := decide_eq_true (by omega)
                                have hz : Hd (bt (tx s) j = 0) := ⟨bt_out (by rw [tx_length]; omega)⟩
                                go_wp2_with fail
                                go_meet
                                exact ⟨by rw [hz.out]; rfl, rfl⟩
                            case rest =>
                              obtain ⟨rfl, rfl⟩ := hcut
                              go_upto_if 194 with (fail)
                              by_cases hno : ¬ (48 ≤ bt (tx s) j ∧ bt (tx s) j ≤ 57)
                              · have hnb : decide (¬ (48 ≤ bt (tx s) j ∧ bt (tx s) j ≤ 57)) = true := decide_eq_true hno
                                rw [hnb]
                                have HNO := Hd.mk hno
                                clear hno hnb
                                go_wp2_with fail
                                try rw [Exit.noGoto_ret]
                                refine bodyPost_ret (results_tmp7 rfl _ _ _) rfl ?_
                                exact ⟨.inl ⟨_, _, _, _, _, _, rfl, whole_uns (by rw [HU.out, bodyG_exno H.out.stop rfl hmy.out (ex_no (by rw [← HK.out, ← HJ.out]; exact HNO.out))])⟩, rfl⟩
                              · have hnb : decide (¬ (48 ≤ bt (tx s) j ∧ bt (tx s) j ≤ 57)) = false := decide_eq_false hno
                                rw [hnb]
                                have HNO := Hd.mk (Classical.not_not.1 hno)
                                clear hno hnb
                                go_wp2_with fail
                                go_loopg [7, 9, 20] (s.size - j) (fun m v7 v9 v20 wr => ∃ (q e : Nat) (u : Bool), v7 = .int .i64 (q : Int) ∧ v9 = .bool (und || u) ∧ v20 = .int .i64 (e : Int) ∧ q + m = s.size ∧ e ≤ 99999 ∧ Hd (eg 0 false ((tx s).drop j) = eg e u ((tx s).drop q)) ∧ w = wr)
                                case atStart => exact ⟨j, 0, false, rfl, by rw [Bool.or_false], rfl, by omega, by omega, ⟨rfl⟩, rfl⟩
                                case round =>
                                  obtain ⟨q, e, u, rfl, rfl, rfl, hqm, he, HQ, rfl⟩ := hrel
                                  have HFIN : Hd (¬ (48 ≤ bt (tx s) q ∧ bt (tx s) q ≤ 57) → bt (tx s) q ≠ 95 → body hex ((tx s).drop i0) = some (⟨hex, ds, frac, (e : Int) * es, und || u⟩, (tx s).drop q)) := by
                                    refine ⟨fun h1 h2 => ?_⟩
                                    have hx := eg_end (e := e) (u := u) h1 h2
                                    have hee : ex ((tx s).drop (i + 1)) = some ((e : Int) * es, u, (tx s).drop q) := by
                                      rw [← HK.out]
                                      rw [ex_yes (by rw [← HJ.out]; exact HNO.out) (by rw [← HJ.out, HQ.out]; exact hx), HES.out]
                                      split
                                      · rw [show (e : Int) * -1 = -(e : Int) by omega]
                                      · rw [Int.mul_one]
                                    exact bodyG_exyes H.out.stop rfl hmy.out hee
                                  cases gk with
                                  | zero =>
                                    obtain rfl : q = s.size := by omega
                                    have HBO := Hd.mk (HFIN.out (by rw [bt_out (by rw [tx_length]; exact Nat.le_refl _)]; omega) (by rw [bt_out (by rw [tx_length]; exact Nat.le_refl _)]; omega))
                                    have hesb : -99999 ≤ (e : Int) * es ∧ (e : Int) * es ≤ 99999 := by rcases HES1.out with h | h <;> rw [h] <;> omega
                                    obtain ⟨ee, hee⟩ : ∃ ee : Int, ee = (e : Int) * es := ⟨_, rfl⟩
                                    have hee2 : (e : Int) * es = ee := hee.symm
                                    rw [← hee] at HBO hesb
                                    clear hee HFIN
                                    go_wp2_with fail
                                    go_meet
                                    case rel => exact ⟨s.size, ee, u, rfl, rfl, rfl, Nat.le_refl _, hesb.1, hesb.2, HBO, rfl⟩
                                  | succ m =>
                                    have hlq : q < s.size := by omega
                                    have HBT := Hd.mk (bt_get s q hlq)
                                    have h256 := UInt8.toNat_lt s[q]
                                    by_cases h95 : s[q].toNat = 95
                                    · have hb : ((s[q].toNat : Int) == 95) = true := beq_iff_eq.2 (by omega)
                                      have hb3 : (48 : Int) ≤ (s[q].toNat : Int) := by omega
                                      have hb4 : ¬ (s[q].toNat : Int) ≤ 57 := by omega
                                      clear HFIN
                                      go_wp2_with fail
                                      go_roundg m
                                      case measure => omega
                                      case rel => exact ⟨q + 1, e, true, by go_num, by rw [Bool.or_true], rfl, by omega, by omega, ⟨by rw [HQ.out, eg_und (by rw [tx_length]; exact hlq) (by rw [← HBT.out]; exact h95)]⟩, rfl⟩
                                    · have hb : ((s[q].toNat : Int) == 95) = false := beq_eq_false_iff_ne.2 (by omega)
                                      by_cases hdg : 48 ≤ s[q].toNat ∧ s[q].toNat ≤ 57
                                      · have hb3 : (48 : Int) ≤ (s[q].toNat : Int) := by omega
                                        have hb4 : (s[q].toNat : Int) ≤ 57 := by omega
                                        have HDG : Hd (48 ≤ bt (tx s) q ∧ bt (tx s) q ≤ 57) := ⟨by rw [← HBT.out]; exact hdg⟩
                                        clear HFIN
                                        by_cases he4 : (e : Int) < 10000
                                        · go_wp2_with fail
                                          go_roundg m
                                          case measure => omega
                                          case rel => exact ⟨q + 1, e * 10 + (s[q].toNat - 48), u, by go_num, rfl, by go_num, by omega, by omega, ⟨by rw [HQ.out, eg_dig (by rw [tx_length]; exact hlq) HDG.out, ← HBT.out, if_pos (by omega)]⟩, rfl⟩
                                        · go_wp2_with fail
                                          go_roundg m
                                          case measure => omega
                                          case rel => exact ⟨q + 1, e, u, by go_num, rfl, rfl, by omega, by omega, ⟨by rw [HQ.out, eg_dig (by rw [tx_length]; exact hlq) HDG.out, if_neg (by omega)]⟩, rfl⟩
                                      · have HBO := Hd.mk (HFIN.out (by rw [← HBT.out]; exact hdg) (by rw [← HBT.out]; exact h95))
                                        have hesb : -99999 ≤ (e : Int) * es ∧ (e : Int) * es ≤ 99999 := by rcases HES1.out with h | h <;> rw [h] <;> omega
                                        obtain ⟨ee, hee⟩ : ∃ ee : Int, ee = (e : Int) * es := ⟨_, rfl⟩
                                        have hee2 : (e : Int) * es = ee := hee.symm
                                        rw [← hee] at HBO hesb
                                        clear hee HFIN
                                        by_cases hb3 : (48 : Int) ≤ (s[q].toNat : Int)
                                        · have hb4 : ¬ (s[q].toNat : Int) ≤ 57 := by omega
                                          go_wp2_with fail
                                          go_meet
                                          case rel => exact ⟨q, ee, u, rfl, rfl, rfl, by omega, hesb.1, hesb.2, HBO, rfl⟩
                                        · go_wp2_with fail
                                          go_meet
                                          case rel => exact ⟨q, ee, u, rfl, rfl, rfl, by omega, hesb.1, hesb.2, HBO, rfl⟩
                    case rest => as_aux_lemma =>
                      obtain ⟨k, e, u, rfl, rfl, rfl, hk, he1, he2, HBO, rfl⟩ := hcut
                      obtain ⟨X, hX⟩ : ∃ X : Int, X = if mt = 0 then 0 else (b + e) - a := ⟨_, rfl⟩
                      have HX := Hd.mk hX
                      clear hX
                      go_upto_if 241 with (fail)
                      go_cut [3] from 240 to 244 (fun v3 wc => v3 = .int .i64 X ∧ w = wc)
                      case first =>
                        by_cases hm0 : mt = 0
                        · have hb0 : ((mt : Int) != 0) = false := by rw [bne, beq_iff_eq.2 (show (mt : Int) = 0 by omega)]; rfl
                          have HXX : Hd (X = 0) := ⟨by rw [HX.out, if_pos hm0]⟩
                          go_wp2
                          go_meet
                          exact ⟨by rw [HXX.out], rfl⟩
                        · have hb0 : ((mt : Int) != 0) = true := by rw [bne, beq_eq_false_iff_ne.2 (show (mt : Int) ≠ 0 by omega)]; rfl
                          have HXX : Hd (X = b + e - a) := ⟨by rw [HX.out, if_neg hm0]⟩
                          go_wp2
                          go_meet
                          exact ⟨by rw [HXX.out], rfl⟩
                      case rest =>
                        obtain ⟨rfl, rfl⟩ := hcut
                        have HOK : Hd ((k = (tx s).length → (und || u) = true → uOK (tx s) = true) → RfOk (tx s) mt X (isNeg (tx s)) tr hex k ⟨hex, ds, frac, e, und || u⟩) := by
                          refine ⟨fun hus => ⟨by rw [HU.out]; exact HBO.out, by rw [tx_length]; exact hk, H.out.inv.mt, rfl, rfl, H.out.inv.tr, ?_, H.out.inv.d16, H.out.inv.d10, by show ds.length ≤ 1000; omega, by show frac ≤ 1000; omega, ⟨he1, he2⟩, hus⟩⟩
                          rw [HX.out, HA.out, HB.out]
                          have h1 := HNM2.out
                          have h2 := HDP2.out
                          by_cases hm0 : mt = 0
                          · rw [if_pos hm0, if_pos hm0]
                          · rw [if_neg hm0, if_neg hm0]
                            cases hex
                            · simp only [Bool.false_eq_true, if_false]
                              have h3 : mkx false = 19 := rfl
                              show dp2 + e - (nm : Int) = ((ds.length : Int) - (frac : Nat) + e) - (min 19 ds.length : Nat)
                              omega
                            · simp only [if_true]
                              have h3 : mkx true = 16 := rfl
                              show 4 * dp2 + e - 4 * (nm : Int) = 4 * ((ds.length : Int) - (min 16 ds.length : Nat) - (frac : Nat)) + e
                              omega
                        cases huu : (und || u)
                        case false =>
                          have HF := Hd.mk (HOK.out (fun _ h => by rw [huu] at h; cases h))
                          have HUU := Hd.mk huu
                          go_wp2_with fail
                          try rw [Exit.noGoto_ret]
                          refine bodyPost_ret (results_tmp7 rfl _ _ _) rfl ?_
                          exact ⟨.inr ⟨_, _, _, _, _, _, _, rfl, HF.out⟩, rfl⟩
                        case true =>
                          have HUU := Hd.mk huu
                          have hsz : (s.extract 0 k).size ≤ 1000 := by rw [ByteArray.size_extract]; omega
                          cases hok : uOK (tx (s.extract 0 k))
                          case true =>
                            have HF : Hd (RfOk (tx s) mt X (isNeg (tx s)) tr hex k ⟨hex, ds, frac, e, und || u⟩) := ⟨HOK.out (fun hkk _ => by
                              rw [tx_extract, List.drop_zero, List.take_of_length_le (by omega)] at hok; exact hok)⟩
                            go_wp2_with (go_at_call 111; ((with_reducible refine (suok_any _ _ hsz).mono ?_); rintro e' w' ⟨rfl, rfl⟩))
                            try rw [Exit.noGoto_ret]
                            refine bodyPost_ret (results_tmp7 rfl _ _ _) rfl ?_
                            exact ⟨.inr ⟨_, _, _, _, _, _, _, rfl, HF.out⟩, rfl⟩
                          case false =>
                            have HF : Hd (whole (tx s) = none) := ⟨by
                              have hun : uns (noSgn (tx s)) = some (⟨hex, ds, frac, e, und || u⟩, (tx s).drop k) := by rw [HU.out]; exact HBO.out
                              unfold whole
                              rw [hun]
                              rcases Nat.lt_or_ge k (tx s).length with hlt | hge
                              · rw [drop_bt hlt]
                              · rw [List.drop_of_length_le hge]
                                have h2 : uOK (tx s) = false := by
                                  rw [tx_extract, List.drop_zero, List.take_of_length_le hge] at hok; exact hok
                                show (if (und || u) = true ∧ uOK (tx s) = false then none else _) = none
                                rw [if_pos ⟨huu, h2⟩]⟩
                            go_wp2_with (go_at_call 111; ((with_reducible refine (suok_any _ _ hsz).mono ?_); rintro e' w' ⟨rfl, rfl⟩))
                            try rw [Exit.noGoto_ret]
                            refine bodyPost_ret (results_tmp7 rfl _ _ _) rfl ?_
                            exact ⟨.inl ⟨_, _, _, _, _, _, rfl, HF.out⟩, rfl⟩
end Go.Proofs.YtknjgopapbemcaaGreatDoor
