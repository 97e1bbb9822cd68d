/- Lm: joined by merge.py for the claim. -/
import Derived.Test.YtknjgopapbemcaaGreatDoorXLp
/- Walk of lightstrconv's read: printed by genLm.py. -/
namespace Go.Proofs.YtknjgopapbemcaaGreatDoor
open Go.RowKit
set_option linter.unusedVariables false
set_option linter.unusedSimpArgs false
theorem RdEnd.bel {hex : Bool} {l : List Nat} {g : Nat} {W1 wr : World} {i : Nat} {st : St} {mt : Nat} {x : Int} {v : Value} (h : RdEnd hex l g W1 wr i st mt x v) : Bel g W1 wr := by
  cases hex with
  | true => exact (h.inv.hx rfl).2.2.bel
  | false => exact (h.inv.dc rfl).2.2.bel
theorem stop_ways {c : Nat} {dot : Bool} (hd : ¬ (48 ≤ c ∧ c ≤ 57)) (h : c = 46 → dot = true) : (c = 46 ∧ dot = true) ∨ (c ≠ 46 ∧ c < 48) ∨ 57 < c := by
  by_cases e : c = 46
  · exact .inl ⟨e, h e⟩
  · rcases Nat.lt_or_ge c 48 with h | h
    · exact .inr (.inl ⟨e, h⟩)
    · exact .inr (.inr (by omega))
set_option maxHeartbeats 4000000 in
set_option maxRecDepth 100000 in
theorem read_any (s : ByteArray) (w : World) (hs : s.size ≤ 1000) :
    Calls Tryz.prog 67 #[.string s] w fun e w' => Below w.heap.size w w' ∧ ((rdL (tx s) = none ∧ e = .returned (.tuple #[.pointer none, .bool false])) ∨ ∃ n g, rdL (tx s) = some n ∧ e = .returned (.tuple #[.pointer (some ⟨g, 0, none⟩), .bool true]) ∧ w.heap.size ≤ g ∧ RdOut w' g n) := by
  obtain ⟨R, hR⟩ : ∃ R, R = rdL (tx s) := ⟨_, rfl⟩
  rw [← hR]
  have HR := Hd.mk hR
  clear hR
  have HBW : Hd (∀ wr, Bel w.heap.size (w.alloc (.cells #[.slice none 0 0, .int .i64 0] 151)) wr → Below w.heap.size w wr) :=
    ⟨fun wr h => ((Below.refl _ _).alloc (Nat.le_refl _) _).trans (h.below.mono (by simp))⟩
  go_enter Tryz.func67, Tryz.ntmps67
  go_upto_region 2 with (fail)
  go_cut [5] from 17 to 30 (fun v5 wc => v5 = .bool (hexL (tx s)) ∧ wc = w.alloc (.cells #[.slice none 0 0, .int .i64 0] 151))
  case first =>
    by_cases h2 : 2 ≤ s.size
    · have HP : Hd (hexL (tx s) = decide (s[0].toNat = 48 ∧ lw s[1].toNat = 120)) := by
        refine ⟨?_⟩
        unfold hexL
        rw [← bt_get s 0 (by omega), ← bt_get s 1 (by omega), tx_length]
        simp [h2]
      have h256 := UInt8.toNat_lt s[1]
      by_cases h3 : s[0].toNat = 48
      · have hx0 : ((s[0].toNat : Int) == 48) = true := by simp; omega
        by_cases h4 : lw s[1].toNat = 120
        · have hx1 : ((lw s[1].toNat : Int) == 120) = true := by simp; omega
          go_wp2_with (first | (refine (lower_any _ _ h256).mono ?_; rintro e' w' ⟨rfl, rfl⟩) | fail)
          go_meet
          exact ⟨by rw [HP.out, decide_eq_true ⟨h3, h4⟩], rfl⟩
        · have hx1 : ((lw s[1].toNat : Int) == 120) = false := by simp; omega
          go_wp2_with (first | (refine (lower_any _ _ h256).mono ?_; rintro e' w' ⟨rfl, rfl⟩) | fail)
          go_meet
          exact ⟨by rw [HP.out, decide_eq_false (fun h => h4 h.2)], rfl⟩
      · have hx0 : ((s[0].toNat : Int) == 48) = false := by simp; omega
        go_wp2
        go_meet
        exact ⟨by rw [HP.out, decide_eq_false (fun h => h3 h.1)], rfl⟩
    · have hr : hexL (tx s) = false := by unfold hexL; rw [tx_length]; simp; omega
      go_wp2
      go_meet
      exact ⟨by rw [hr], rfl⟩
  case rest =>
    obtain ⟨rfl, rfl⟩ := hcut
    go_upto_if 31 with (fail)
    go_cut [0, 5, 6] from 31 to 33 (fun v0 v5 v6 wc => ∃ t : ByteArray, v0 = .string t ∧ v5 = .bool (hexL (tx s)) ∧ v6 = .int .u8 (mark (hexL (tx s)) : Nat) ∧ tx t = (if hexL (tx s) then (tx s).drop 2 else tx s) ∧ t.size ≤ 1000 ∧ wc = w.alloc (.cells #[.slice none 0 0, .int .i64 0] 151))
    case first =>
      generalize hh : hexL (tx s) = b
      cases b
      case true =>
        have h2 : 2 ≤ s.size := by unfold hexL at hh; rw [tx_length] at hh; simp at hh; omega
        go_wp2
        go_meet
        exact ⟨_, rfl, by rw [hh], by rw [hh]; rfl, by rw [if_pos hh, tx_drop], by rw [size_drop]; omega, rfl⟩
      case false =>
        go_wp2
        go_meet
        exact ⟨_, rfl, by rw [hh], by rw [hh]; rfl, by rw [if_neg (by rw [hh]; simp)], hs, rfl⟩
    case rest =>
      obtain ⟨t, rfl, rfl, rfl, ht, hts, rfl⟩ := hcut
      have HT := Hd.mk ht
      clear ht
      obtain ⟨hex, hhex⟩ : ∃ b, b = hexL (tx s) := ⟨_, rfl⟩
      rw [← hhex]
      have HHEX := Hd.mk hhex
      clear hhex
      have hg1 := heap_alloc_new w (.cells #[.slice none 0 0, .int .i64 0] 151 (0, 0))
      generalize w.alloc (.cells #[.slice none 0 0, .int .i64 0] 151) = W1 at hg1 HBW ⊢
      have HGW : Hd (∃ g, g = w.heap.size) := ⟨_, rfl⟩
      obtain ⟨g, hg⟩ := HGW.out
      rw [← hg] at hg1 ⊢
      have HG := Hd.mk hg
      clear hg
      have HG1 := Hd.mk (Gr.start hg1)
      clear hg1
      go_upto_block 0 with (fail)
      go_cut [7, 8, 9, 10, 11, 12, 13] from 34 to 129 (fun v7 v8 v9 v10 v11 v12 v13 wc => ∃ (i : Nat) (st : St) (mt : Nat) (x : Int) (v : Value), v7 = .int .u64 mt ∧ v8 = .bool st.dig ∧ v9 = .bool st.dot ∧ v10 = .int .i64 x ∧ v11 = .int .i64 i ∧ RdEnd hex (tx t) g W1 wc i st mt x v)
      case first => as_aux_lemma =>
        go_wp2_with fail
        go_loopg [7, 8, 9, 10, 11, 12, 13] t.size (fun m v7 v8 v9 v10 v11 v12 v13 wr => ∃ (i : Nat) (st : St) (mt : Nat) (x : Int) (v : Value), v7 = .int .u64 mt ∧ v8 = .bool st.dig ∧ v9 = .bool st.dot ∧ v10 = .int .i64 x ∧ v11 = .int .i64 i ∧ i + m = t.size ∧ RdInv hex (tx t) g W1 wr i st mt x v)
        case atStart => exact ⟨0, st0, 0, 0, _, rfl, rfl, rfl, rfl, rfl, by omega, rd_start HG1.out⟩
        case round => as_aux_lemma =>

          obtain ⟨i, st, mt, x, v, rfl, rfl, rfl, rfl, rfl, him, HI⟩ := hrel
          cases gk with
          | zero =>
            obtain rfl : i = t.size := by omega
            go_wp2_with fail
            go_meet
            case rel => exact ⟨t.size, st, mt, x, v, rfl, rfl, rfl, rfl, rfl, HI.fin (by rw [tx_length])⟩
          | succ m =>
            have hlt : i < t.size := by omega
            have h256 := UInt8.toNat_lt t[i]
            have HBT := Hd.mk (bt_get t i hlt)
            by_cases h95 : t[i].toNat = 95
            · have hb1 : ((t[i].toNat : Int) == 95) = true := by simp; omega
              go_wp2_with fail
              go_roundg m
              case measure => omega
              case rel => exact ⟨i + 1, { st with und := true }, mt, x, v, rfl, rfl, rfl, rfl, by go_num, by omega, HI.und (by rw [tx_length]; exact hlt) HBT.out h95⟩
            · have hb1 : ((t[i].toNat : Int) == 95) = false := by simp; omega
              by_cases hd : 48 ≤ t[i].toNat ∧ t[i].toNat ≤ 57
              · have hb2 : ((t[i].toNat : Int) == 46) = false := by simp; omega
                have hb3 : (48 : Int) ≤ (t[i].toNat : Int) := by omega
                have hb4 : (t[i].toNat : Int) ≤ 57 := by omega
                obtain ⟨d, hde⟩ : ∃ d, d = t[i].toNat - 48 := ⟨_, rfl⟩
                have hdI : (t[i].toNat : Int) - 48 = (d : Int) := by omega
                cases hex with
                | false =>
                  have hdv : dval false t[i].toNat = some d := by rw [dval_c hd, hde]
                  clear hde
                  have hd16 := (dval_lt hdv).1
                  have hdn : ((d : Int) == 16) = false := by simp; omega
                  obtain ⟨ds, frac, dot, dig, und⟩ := st
                  obtain ⟨-, -, HG⟩ := HI.dc rfl
                  have hfr := HI.fr
                  have hlen := HI.len
                  simp only at HG hfr hlen
                  have HIH := Hd.mk HI
                  clear HI
                  obtain ⟨dp, hdp⟩ : ∃ dp : Int, dp = (ds.length : Int) - (frac : Nat) := ⟨_, rfl⟩
                  rw [← hdp] at HG
                  have hdpb : -2000 ≤ dp ∧ dp ≤ 2000 := by omega
                  have HDP := Hd.mk hdp
                  clear hdp
                  obtain ⟨A, c, hv⟩ := HG.own.shape
                  subst hv
                  have hc0 := at_c0 HG.blk
                  have hc1 := at_c1 HG.blk
                  have hf1 := free_c HG.blk 1
                  have hll : ds.length ≤ 1000000000 := by omega
                  have hbs : W1.heap.size ≤ wr.heap.size := HG.bel.size
                  have H := Hd.mk HG
                  clear HG hfr hlen
                  by_cases hap : 0 < ds.length ∨ d ≠ 0
                  · have hps := Hd.mk (psh_app hap)
                    by_cases hl0 : 0 < ds.length
                    · have hl0b : decide ((0 : Int) < (ds.length : Int)) = true := by simp; omega
                      cases dot
                      case false =>
                        go_wp2_with (first | (at_builtin; refine wpList_app8 rfl _ _ rfl W1.heap.size _ ds rfl (H.out.own.row.alloc _) ⟨wr.heap.size, 0, none⟩ d rfl (cell_one_new _ _ _) hll (by simp; omega) ?_; intro v2 w2 hown2 hgr2; have HG2 := H.out.app hgr2 hown2; obtain ⟨A2, c2, hv2⟩ := HG2.own.shape; rw [List.length_append, List.length_singleton] at hv2; subst hv2; have hc02 := HG2.c0; have hf2 := HG2.fz 0; have hc12 := at_c1 HG2.blk; have hf21 := HG2.fz 1; have HG3 := Hd.mk HG2; clear HG2 hown2 hgr2) | fail)
                        go_roundg m
                        case measure => omega
                        case rel => exact ⟨i + 1, ⟨psh ds d, frac, false, true, und⟩, mt, x, _, rfl, rfl, rfl, rfl, by go_num, by omega, HIH.out.dec (by rw [tx_length]; exact hlt) HBT.out h95 hdv (by rw [hps.out]; exact HG3.out.set.setP (dp + 1)) (by rw [hps.out, HDP.out]; simp; omega)⟩
                      case true =>
                        go_wp2_with (first | (at_builtin; refine wpList_app8 rfl _ _ rfl W1.heap.size _ ds rfl (H.out.own.row.alloc _) ⟨wr.heap.size, 0, none⟩ d rfl (cell_one_new _ _ _) hll (by simp; omega) ?_; intro v2 w2 hown2 hgr2; have HG2 := H.out.app hgr2 hown2; obtain ⟨A2, c2, hv2⟩ := HG2.own.shape; rw [List.length_append, List.length_singleton] at hv2; subst hv2; have hc02 := HG2.c0; have hf2 := HG2.fz 0; have hc12 := at_c1 HG2.blk; have hf21 := HG2.fz 1; have HG3 := Hd.mk HG2; clear HG2 hown2 hgr2) | fail)
                        go_roundg m
                        case measure => omega
                        case rel => exact ⟨i + 1, ⟨psh ds d, frac + 1, true, true, und⟩, mt, x, _, rfl, rfl, rfl, rfl, by go_num, by omega, HIH.out.dec (by rw [tx_length]; exact hlt) HBT.out h95 hdv (by rw [hps.out]; exact HG3.out.set) (by rw [hps.out, HDP.out]; simp; omega)⟩
                    · obtain rfl : ds = [] := List.eq_nil_of_length_eq_zero (by omega)
                      have hd0b : ((d : Int) != 0) = true := by simp; omega
                      clear hl0 hap hll
                      cases dot
                      case false =>
                        go_wp2_with (first | (at_builtin; refine wpList_app8 rfl _ _ rfl W1.heap.size _ [] rfl (H.out.own.row.alloc _) ⟨wr.heap.size, 0, none⟩ d rfl (cell_one_new _ _ _) (by decide) (by simp; omega) ?_; intro v2 w2 hown2 hgr2; have HG2 := H.out.app hgr2 hown2; obtain ⟨A2, c2, hv2⟩ := HG2.own.shape; have hv3 : v2 = .slice A2 1 c2 := hv2; clear hv2; subst hv3; have hc02 := HG2.c0; have hf2 := HG2.fz 0; have hc12 := at_c1 HG2.blk; have hf21 := HG2.fz 1; have HG3 := Hd.mk HG2; clear HG2 hown2 hgr2) | fail)
                        go_roundg m
                        case measure => omega
                        case rel => exact ⟨i + 1, ⟨psh [] d, frac, false, true, und⟩, mt, x, _, rfl, rfl, rfl, rfl, by go_num, by omega, HIH.out.dec (by rw [tx_length]; exact hlt) HBT.out h95 hdv (by rw [hps.out]; exact HG3.out.set.setP (dp + 1)) (by rw [hps.out, HDP.out]; simp; omega)⟩
                      case true =>
                        go_wp2_with (first | (at_builtin; refine wpList_app8 rfl _ _ rfl W1.heap.size _ [] rfl (H.out.own.row.alloc _) ⟨wr.heap.size, 0, none⟩ d rfl (cell_one_new _ _ _) (by decide) (by simp; omega) ?_; intro v2 w2 hown2 hgr2; have HG2 := H.out.app hgr2 hown2; obtain ⟨A2, c2, hv2⟩ := HG2.own.shape; have hv3 : v2 = .slice A2 1 c2 := hv2; clear hv2; subst hv3; have hc02 := HG2.c0; have hf2 := HG2.fz 0; have hc12 := at_c1 HG2.blk; have hf21 := HG2.fz 1; have HG3 := Hd.mk HG2; clear HG2 hown2 hgr2) | fail)
                        go_roundg m
                        case measure => omega
                        case rel => exact ⟨i + 1, ⟨psh [] d, frac + 1, true, true, und⟩, mt, x, _, rfl, rfl, rfl, rfl, by go_num, by omega, HIH.out.dec (by rw [tx_length]; exact hlt) HBT.out h95 hdv (by rw [hps.out]; exact HG3.out.set) (by rw [hps.out, HDP.out]; simp; omega)⟩
                  · obtain rfl : ds = [] := List.eq_nil_of_length_eq_zero (by omega)
                    obtain rfl : d = 0 := by omega
                    have hps : Hd (psh [] 0 = []) := ⟨rfl⟩
                    clear hap hdn hd16 hll
                    cases dot
                    case false =>
                      go_wp2_with fail
                      go_roundg m
                      case measure => omega
                      case rel => exact ⟨i + 1, ⟨psh [] 0, frac, false, true, und⟩, mt, x, _, rfl, rfl, rfl, rfl, by go_num, by omega, HIH.out.dec (by rw [tx_length]; exact hlt) HBT.out h95 hdv (by rw [hps.out]; exact H.out) (by rw [hps.out, HDP.out]; simp)⟩
                    case true =>
                      go_wp2_with fail
                      go_roundg m
                      case measure => omega
                      case rel => exact ⟨i + 1, ⟨psh [] 0, frac + 1, true, true, und⟩, mt, x, _, rfl, rfl, rfl, rfl, by go_num, by omega, HIH.out.dec (by rw [tx_length]; exact hlt) HBT.out h95 hdv (by rw [hps.out]; exact H.out.setP (dp - 1)) (by rw [hps.out, HDP.out]; simp; omega)⟩
                | true =>
                  have hdv : dval true t[i].toNat = some d := by rw [dval_c hd, hde]
                  clear hde
                  have hd16 := (dval_lt hdv).1
                  have hdn : ((d : Int) == 16) = false := by simp; omega
                  obtain ⟨ds, frac, dot, dig, und⟩ := st
                  have hmt := HI.nd
                  have hxb := HI.xb
                  have H := Hd.mk HI
                  clear HI
                  by_cases hq : mt < 1152921504606846976
                  · have hqb : ((mt : Int) / 1152921504606846976 == 0) = true := by simp; omega
                    have hor := or_shl hq hd16
                    cases dot
                    case false =>
                      go_wp2_with (first | (refine (lower_any _ _ h256).mono ?_; rintro e' w' ⟨rfl, rfl⟩) | fail)
                      go_roundg m
                      case measure => omega
                      case rel => exact ⟨i + 1, ⟨psh ds d, frac, false, true, und⟩, _, x, v, rfl, rfl, rfl, by go_num, by go_num, by omega, H.out.hexA (by rw [tx_length]; exact hlt) HBT.out h95 hdv hq rfl rfl⟩
                    case true =>
                      go_wp2_with (first | (refine (lower_any _ _ h256).mono ?_; rintro e' w' ⟨rfl, rfl⟩) | fail)
                      go_roundg m
                      case measure => omega
                      case rel => exact ⟨i + 1, ⟨psh ds d, frac + 1, true, true, und⟩, _, x - 4, v, rfl, rfl, rfl, by go_num, by go_num, by omega, H.out.hexA (by rw [tx_length]; exact hlt) HBT.out h95 hdv hq rfl rfl⟩
                  · have hqb : ((mt : Int) / 1152921504606846976 == 0) = false := by simp; omega
                    have hor := or_one hmt
                    by_cases hd0 : d = 0
                    · have hd0b : ((d : Int) != 0) = false := by simp; omega
                      cases dot
                      case false =>
                        go_wp2_with (first | (refine (lower_any _ _ h256).mono ?_; rintro e' w' ⟨rfl, rfl⟩) | fail)
                        go_roundg m
                        case measure => omega
                        case rel => exact ⟨i + 1, ⟨psh ds d, frac, false, true, und⟩, mt, x + 4, v, rfl, rfl, rfl, by go_num, by go_num, by omega, H.out.hexB (by rw [tx_length]; exact hlt) HBT.out h95 hdv (by omega) (by rw [if_pos hd0]) rfl⟩
                      case true =>
                        go_wp2_with (first | (refine (lower_any _ _ h256).mono ?_; rintro e' w' ⟨rfl, rfl⟩) | fail)
                        go_roundg m
                        case measure => omega
                        case rel => exact ⟨i + 1, ⟨psh ds d, frac + 1, true, true, und⟩, mt, x, v, rfl, rfl, rfl, by go_num, by go_num, by omega, H.out.hexB (by rw [tx_length]; exact hlt) HBT.out h95 hdv (by omega) (by rw [if_pos hd0]) rfl⟩
                    · have hd0b : ((d : Int) != 0) = true := by simp; omega
                      cases dot
                      case false =>
                        go_wp2_with (first | (refine (lower_any _ _ h256).mono ?_; rintro e' w' ⟨rfl, rfl⟩) | fail)
                        go_roundg m
                        case measure => omega
                        case rel => exact ⟨i + 1, ⟨psh ds d, frac, false, true, und⟩, (mt ||| 1), x + 4, v, rfl, rfl, rfl, by go_num, by go_num, by omega, H.out.hexB (by rw [tx_length]; exact hlt) HBT.out h95 hdv (by omega) (by rw [if_neg hd0]) rfl⟩
                      case true =>
                        go_wp2_with (first | (refine (lower_any _ _ h256).mono ?_; rintro e' w' ⟨rfl, rfl⟩) | fail)
                        go_roundg m
                        case measure => omega
                        case rel => exact ⟨i + 1, ⟨psh ds d, frac + 1, true, true, und⟩, (mt ||| 1), x, v, rfl, rfl, rfl, by go_num, by go_num, by omega, H.out.hexB (by rw [tx_length]; exact hlt) HBT.out h95 hdv (by omega) (by rw [if_neg hd0]) rfl⟩
              · by_cases hl : hex = true ∧ 97 ≤ lw t[i].toNat ∧ lw t[i].toNat ≤ 102
                · obtain ⟨rfl, hl1, hl2⟩ := hl
                  have hl1' : (97 : Int) ≤ (lw t[i].toNat : Int) := by omega
                  have hl2' : (lw t[i].toNat : Int) ≤ 102 := by omega
                  have hb2 : ((t[i].toNat : Int) == 46) = false := by
                    simp; intro e; have e2 : t[i].toNat = 46 := by omega
                    rw [e2] at hl1; exact absurd hl1 (by decide)
                  obtain ⟨d, hde⟩ : ∃ d, d = lw t[i].toNat - 87 := ⟨_, rfl⟩
                  have hdI : (lw t[i].toNat : Int) - 97 + 10 = (d : Int) := by omega
                  have hdv : dval true t[i].toNat = some d := by rw [dval_l hd ⟨hl1, hl2⟩, hde]
                  clear hde
                  by_cases hc2 : (48 : Int) ≤ (t[i].toNat : Int)
                  · have hc3 : ¬ (t[i].toNat : Int) ≤ 57 := by omega
                    have hd16 := (dval_lt hdv).1
                    have hdn : ((d : Int) == 16) = false := by simp; omega
                    obtain ⟨ds, frac, dot, dig, und⟩ := st
                    have hmt := HI.nd
                    have hxb := HI.xb
                    have H := Hd.mk HI
                    clear HI
                    by_cases hq : mt < 1152921504606846976
                    · have hqb : ((mt : Int) / 1152921504606846976 == 0) = true := by simp; omega
                      have hor := or_shl hq hd16
                      cases dot
                      case false =>
                        go_wp2_with (first | (refine (lower_any _ _ h256).mono ?_; rintro e' w' ⟨rfl, rfl⟩) | fail)
                        go_roundg m
                        case measure => omega
                        case rel => exact ⟨i + 1, ⟨psh ds d, frac, false, true, und⟩, _, x, v, rfl, rfl, rfl, by go_num, by go_num, by omega, H.out.hexA (by rw [tx_length]; exact hlt) HBT.out h95 hdv hq rfl rfl⟩
                      case true =>
                        go_wp2_with (first | (refine (lower_any _ _ h256).mono ?_; rintro e' w' ⟨rfl, rfl⟩) | fail)
                        go_roundg m
                        case measure => omega
                        case rel => exact ⟨i + 1, ⟨psh ds d, frac + 1, true, true, und⟩, _, x - 4, v, rfl, rfl, rfl, by go_num, by go_num, by omega, H.out.hexA (by rw [tx_length]; exact hlt) HBT.out h95 hdv hq rfl rfl⟩
                    · have hqb : ((mt : Int) / 1152921504606846976 == 0) = false := by simp; omega
                      have hor := or_one hmt
                      by_cases hd0 : d = 0
                      · have hd0b : ((d : Int) != 0) = false := by simp; omega
                        cases dot
                        case false =>
                          go_wp2_with (first | (refine (lower_any _ _ h256).mono ?_; rintro e' w' ⟨rfl, rfl⟩) | fail)
                          go_roundg m
                          case measure => omega
                          case rel => exact ⟨i + 1, ⟨psh ds d, frac, false, true, und⟩, mt, x + 4, v, rfl, rfl, rfl, by go_num, by go_num, by omega, H.out.hexB (by rw [tx_length]; exact hlt) HBT.out h95 hdv (by omega) (by rw [if_pos hd0]) rfl⟩
                        case true =>
                          go_wp2_with (first | (refine (lower_any _ _ h256).mono ?_; rintro e' w' ⟨rfl, rfl⟩) | fail)
                          go_roundg m
                          case measure => omega
                          case rel => exact ⟨i + 1, ⟨psh ds d, frac + 1, true, true, und⟩, mt, x, v, rfl, rfl, rfl, by go_num, by go_num, by omega, H.out.hexB (by rw [tx_length]; exact hlt) HBT.out h95 hdv (by omega) (by rw [if_pos hd0]) rfl⟩
                      · have hd0b : ((d : Int) != 0) = true := by simp; omega
                        cases dot
                        case false =>
                          go_wp2_with (first | (refine (lower_any _ _ h256).mono ?_; rintro e' w' ⟨rfl, rfl⟩) | fail)
                          go_roundg m
                          case measure => omega
                          case rel => exact ⟨i + 1, ⟨psh ds d, frac, false, true, und⟩, (mt ||| 1), x + 4, v, rfl, rfl, rfl, by go_num, by go_num, by omega, H.out.hexB (by rw [tx_length]; exact hlt) HBT.out h95 hdv (by omega) (by rw [if_neg hd0]) rfl⟩
                        case true =>
                          go_wp2_with (first | (refine (lower_any _ _ h256).mono ?_; rintro e' w' ⟨rfl, rfl⟩) | fail)
                          go_roundg m
                          case measure => omega
                          case rel => exact ⟨i + 1, ⟨psh ds d, frac + 1, true, true, und⟩, (mt ||| 1), x, v, rfl, rfl, rfl, by go_num, by go_num, by omega, H.out.hexB (by rw [tx_length]; exact hlt) HBT.out h95 hdv (by omega) (by rw [if_neg hd0]) rfl⟩
                  · skip
                    have hd16 := (dval_lt hdv).1
                    have hdn : ((d : Int) == 16) = false := by simp; omega
                    obtain ⟨ds, frac, dot, dig, und⟩ := st
                    have hmt := HI.nd
                    have hxb := HI.xb
                    have H := Hd.mk HI
                    clear HI
                    by_cases hq : mt < 1152921504606846976
                    · have hqb : ((mt : Int) / 1152921504606846976 == 0) = true := by simp; omega
                      have hor := or_shl hq hd16
                      cases dot
                      case false =>
                        go_wp2_with (first | (refine (lower_any _ _ h256).mono ?_; rintro e' w' ⟨rfl, rfl⟩) | fail)
                        go_roundg m
                        case measure => omega
                        case rel => exact ⟨i + 1, ⟨psh ds d, frac, false, true, und⟩, _, x, v, rfl, rfl, rfl, by go_num, by go_num, by omega, H.out.hexA (by rw [tx_length]; exact hlt) HBT.out h95 hdv hq rfl rfl⟩
                      case true =>
                        go_wp2_with (first | (refine (lower_any _ _ h256).mono ?_; rintro e' w' ⟨rfl, rfl⟩) | fail)
                        go_roundg m
                        case measure => omega
                        case rel => exact ⟨i + 1, ⟨psh ds d, frac + 1, true, true, und⟩, _, x - 4, v, rfl, rfl, rfl, by go_num, by go_num, by omega, H.out.hexA (by rw [tx_length]; exact hlt) HBT.out h95 hdv hq rfl rfl⟩
                    · have hqb : ((mt : Int) / 1152921504606846976 == 0) = false := by simp; omega
                      have hor := or_one hmt
                      by_cases hd0 : d = 0
                      · have hd0b : ((d : Int) != 0) = false := by simp; omega
                        cases dot
                        case false =>
                          go_wp2_with (first | (refine (lower_any _ _ h256).mono ?_; rintro e' w' ⟨rfl, rfl⟩) | fail)
                          go_roundg m
                          case measure => omega
                          case rel => exact ⟨i + 1, ⟨psh ds d, frac, false, true, und⟩, mt, x + 4, v, rfl, rfl, rfl, by go_num, by go_num, by omega, H.out.hexB (by rw [tx_length]; exact hlt) HBT.out h95 hdv (by omega) (by rw [if_pos hd0]) rfl⟩
                        case true =>
                          go_wp2_with (first | (refine (lower_any _ _ h256).mono ?_; rintro e' w' ⟨rfl, rfl⟩) | fail)
                          go_roundg m
                          case measure => omega
                          case rel => exact ⟨i + 1, ⟨psh ds d, frac + 1, true, true, und⟩, mt, x, v, rfl, rfl, rfl, by go_num, by go_num, by omega, H.out.hexB (by rw [tx_length]; exact hlt) HBT.out h95 hdv (by omega) (by rw [if_pos hd0]) rfl⟩
                      · have hd0b : ((d : Int) != 0) = true := by simp; omega
                        cases dot
                        case false =>
                          go_wp2_with (first | (refine (lower_any _ _ h256).mono ?_; rintro e' w' ⟨rfl, rfl⟩) | fail)
                          go_roundg m
                          case measure => omega
                          case rel => exact ⟨i + 1, ⟨psh ds d, frac, false, true, und⟩, (mt ||| 1), x + 4, v, rfl, rfl, rfl, by go_num, by go_num, by omega, H.out.hexB (by rw [tx_length]; exact hlt) HBT.out h95 hdv (by omega) (by rw [if_neg hd0]) rfl⟩
                        case true =>
                          go_wp2_with (first | (refine (lower_any _ _ h256).mono ?_; rintro e' w' ⟨rfl, rfl⟩) | fail)
                          go_roundg m
                          case measure => omega
                          case rel => exact ⟨i + 1, ⟨psh ds d, frac + 1, true, true, und⟩, (mt ||| 1), x, v, rfl, rfl, rfl, by go_num, by go_num, by omega, H.out.hexB (by rw [tx_length]; exact hlt) HBT.out h95 hdv (by omega) (by rw [if_neg hd0]) rfl⟩
                · by_cases h46 : t[i].toNat = 46 ∧ st.dot = false
                  · have hb2 : ((t[i].toNat : Int) == 46) = true := by simp; omega
                    obtain ⟨ds, frac, dot, dig, und⟩ := st
                    obtain ⟨h46, hdot⟩ := h46
                    simp only at hdot
                    subst hdot
                    go_wp2_with fail
                    go_roundg m
                    case measure => omega
                    case rel => exact ⟨i + 1, ⟨ds, frac, true, dig, und⟩, mt, x, v, rfl, rfl, rfl, rfl, by go_num, by omega, HI.dotS (by rw [tx_length]; exact hlt) HBT.out h46 rfl⟩
                  · have hlt2 := hl
                    have hno : ∀ st', st' = st → dval hex t[i].toNat = none := fun _ _ => dval_n hd hlt2
                    obtain ⟨ds, frac, dot, dig, und⟩ := st
                    have H := Hd.mk HI
                    have hmt := HI.nd
                    have hxb := HI.xb
                    clear HI
                    have hstop : Hd (t[i].toNat = 46 → dot = true) := ⟨fun e => by cases hdt : dot; exact absurd ⟨e, hdt⟩ h46; rfl⟩
                    have HNO := Hd.mk (hno _ rfl)
                    clear hno
                    rcases stop_ways hd hstop.out with hc | hc | hc
                    · obtain ⟨hc, rfl⟩ := hc
                      have hc1 : ((t[i].toNat : Int) == 46) = true := by simp; omega
                      have hc2 : ¬ (48 : Int) ≤ (t[i].toNat : Int) := by omega
                      cases hex
                      case false =>
                        go_wp2_with (first | (refine (lower_any _ _ h256).mono ?_; rintro e' w' ⟨rfl, rfl⟩) | fail)
                        go_meet
                        case rel => exact ⟨i, ⟨ds, frac, true, dig, und⟩, mt, x, v, rfl, rfl, rfl, rfl, rfl, H.out.stop (by rw [tx_length]; exact hlt) HBT.out h95 (fun _ => rfl) HNO.out⟩
                      case true =>
                        have hl46 : ((lw 46 : Nat) : Int) = 46 := rfl
                        go_wp2_with (first | (refine (lower_any 46 _ (by omega)).mono ?_; rintro e' w' ⟨rfl, rfl⟩) | fail)
                        go_meet
                        case rel => exact ⟨i, ⟨ds, frac, true, dig, und⟩, mt, x, v, rfl, rfl, rfl, rfl, rfl, H.out.stop (by rw [tx_length]; exact hlt) HBT.out h95 (fun _ => rfl) HNO.out⟩
                    · have hc1 : ((t[i].toNat : Int) == 46) = false := by simp; omega
                      have hc2 : ¬ (48 : Int) ≤ (t[i].toNat : Int) := by omega
                      cases hex
                      case false =>
                        go_wp2_with (first | (refine (lower_any _ _ h256).mono ?_; rintro e' w' ⟨rfl, rfl⟩) | fail)
                        go_meet
                        case rel => exact ⟨i, ⟨ds, frac, dot, dig, und⟩, mt, x, v, rfl, rfl, rfl, rfl, rfl, H.out.stop (by rw [tx_length]; exact hlt) HBT.out h95 hstop.out HNO.out⟩
                      case true =>
                        by_cases hl1 : (97 : Int) ≤ (lw t[i].toNat : Int)
                        · have hl2 : ¬ (lw t[i].toNat : Int) ≤ 102 := by intro h; exact hlt2 ⟨rfl, by omega, by omega⟩
                          have hl3 : decide ((lw t[i].toNat : Int) ≤ 102) = false := decide_eq_false hl2
                          go_wp2_with (first | (refine (lower_any _ _ h256).mono ?_; rintro e' w' ⟨rfl, rfl⟩) | fail)
                          go_meet
                          case rel => exact ⟨i, ⟨ds, frac, dot, dig, und⟩, mt, x, v, rfl, rfl, rfl, rfl, rfl, H.out.stop (by rw [tx_length]; exact hlt) HBT.out h95 hstop.out HNO.out⟩
                        · go_wp2_with (first | (refine (lower_any _ _ h256).mono ?_; rintro e' w' ⟨rfl, rfl⟩) | fail)
                          go_meet
                          case rel => exact ⟨i, ⟨ds, frac, dot, dig, und⟩, mt, x, v, rfl, rfl, rfl, rfl, rfl, H.out.stop (by rw [tx_length]; exact hlt) HBT.out h95 hstop.out HNO.out⟩
                    · have hc1 : ((t[i].toNat : Int) == 46) = false := by simp; omega
                      have hc2 : (48 : Int) ≤ (t[i].toNat : Int) := by omega
                      have hc3 : ¬ (t[i].toNat : Int) ≤ 57 := by omega
                      cases hex
                      case false =>
                        go_wp2_with (first | (refine (lower_any _ _ h256).mono ?_; rintro e' w' ⟨rfl, rfl⟩) | fail)
                        go_meet
                        case rel => exact ⟨i, ⟨ds, frac, dot, dig, und⟩, mt, x, v, rfl, rfl, rfl, rfl, rfl, H.out.stop (by rw [tx_length]; exact hlt) HBT.out h95 hstop.out HNO.out⟩
                      case true =>
                        by_cases hl1 : (97 : Int) ≤ (lw t[i].toNat : Int)
                        · have hl2 : ¬ (lw t[i].toNat : Int) ≤ 102 := by intro h; exact hlt2 ⟨rfl, by omega, by omega⟩
                          have hl3 : decide ((lw t[i].toNat : Int) ≤ 102) = false := decide_eq_false hl2
                          go_wp2_with (first | (refine (lower_any _ _ h256).mono ?_; rintro e' w' ⟨rfl, rfl⟩) | fail)
                          go_meet
                          case rel => exact ⟨i, ⟨ds, frac, dot, dig, und⟩, mt, x, v, rfl, rfl, rfl, rfl, rfl, H.out.stop (by rw [tx_length]; exact hlt) HBT.out h95 hstop.out HNO.out⟩
                        · go_wp2_with (first | (refine (lower_any _ _ h256).mono ?_; rintro e' w' ⟨rfl, rfl⟩) | fail)
                          go_meet
                          case rel => exact ⟨i, ⟨ds, frac, dot, dig, und⟩, mt, x, v, rfl, rfl, rfl, rfl, rfl, H.out.stop (by rw [tx_length]; exact hlt) HBT.out h95 hstop.out HNO.out⟩
      case rest =>
        obtain ⟨i, st, mt, x, v, rfl, rfl, rfl, rfl, rfl, HE⟩ := hcut
        have H := Hd.mk HE
        clear HE
        have HRB : Hd (R = whl (body hex (tx t))) := ⟨by rw [HR.out, rdL, ← HHEX.out, HT.out, ← HHEX.out]⟩
        clear HR HT HHEX
        have HBe : Hd (Below w.heap.size w wc) := ⟨HBW.out wc (by rw [← HG.out]; exact H.out.bel)⟩
        have hxb := H.out.inv.xb
        have hil : i ≤ t.size := by have := H.out.inv.il; rw [tx_length] at this; exact this
        have HSTOP := Hd.mk H.out.stop
        obtain ⟨ds, frac, dot, dig, und⟩ := st
        cases dig
        case false =>
          go_wp2_with fail
          go_ret2
          exact ⟨HBe.out, .inl ⟨by rw [HRB.out, body_nodig HSTOP.out rfl]; rfl, rfl⟩⟩
        case true =>
        go_upto_region 37 with (fail)
        go_cut [143] from 132 to 143 (fun v143 wx => v143 = .bool (decide (lw (bt (tx t) i) = mark hex)) ∧ wc = wx)
        case first =>
          by_cases hlt : i < t.size
          · have h256 := UInt8.toNat_lt t[i]
            have HBT := Hd.mk (bt_get t i hlt)
            by_cases hm : lw t[i].toNat = mark hex
            · have hmb : ((lw t[i].toNat : Int) == (mark hex : Int)) = true := by simp; omega
              go_wp2_with (first | (refine (lower_any _ _ h256).mono ?_; rintro e' w' ⟨rfl, rfl⟩) | fail)
              go_meet
              exact ⟨by rw [← HBT.out, decide_eq_true hm], rfl⟩
            · have hmb : ((lw t[i].toNat : Int) == (mark hex : Int)) = false := by simp; omega
              go_wp2_with (first | (refine (lower_any _ _ h256).mono ?_; rintro e' w' ⟨rfl, rfl⟩) | fail)
              go_meet
              exact ⟨by rw [← HBT.out, decide_eq_false hm], rfl⟩
          · have hz : Hd (decide (lw (bt (tx t) i) = mark hex) = false) := by
              refine ⟨?_⟩
              rw [bt_end (by rw [tx_length]; omega)]
              cases hex <;> decide
            go_wp2
            go_meet
            exact ⟨by rw [hz.out], rfl⟩
        case rest =>
          obtain ⟨rfl, rfl⟩ := hcut
          go_upto_if 143 with (fail)
          go_cut [10, 11, 14, 15] from 143 to 236 (fun v10 v11 v14 v15 wx => ∃ (k : Nat) (e : Int) (u : Bool), v10 = .int .i64 (x + e) ∧ v11 = .int .i64 k ∧ k ≤ t.size ∧ -99999 ≤ e ∧ e ≤ 99999 ∧ Hd (body hex (tx t) = some (⟨hex, ds, frac, e, und || u⟩, (tx t).drop k)) ∧ wc = wx)
          case first => as_aux_lemma =>
            generalize hmk : decide (lw (bt (tx t) i) = mark hex) = b
            cases b
            case false =>
              have hmn : Hd (lw (bt (tx t) i) ≠ mark hex) := ⟨of_decide_eq_false hmk⟩
              clear hmk
              cases hex
              case true =>
                go_wp2_with fail
                go_ret2
                exact ⟨HBe.out, .inl ⟨by rw [HRB.out, body_hexno HSTOP.out rfl hmn.out]; rfl, rfl⟩⟩
              case false =>
                go_wp2_with fail
                go_meet
                case rel => exact ⟨i, 0, false, by rw [Int.add_zero], rfl, hil, by omega, by omega, ⟨by rw [body_dec HSTOP.out rfl hmn.out, Bool.or_false]⟩, rfl⟩
            case true =>
              have hmy : Hd (lw (bt (tx t) i) = mark hex) := ⟨of_decide_eq_true hmk⟩
              clear hmk
              have hlt : i < t.size := by
                have := bt_in (l := tx t) (k := i) (by intro e; have := hmy.out; rw [e] at this; cases hex <;> revert this <;> decide)
                rw [tx_length] at this; exact this
              go_upto_region 39 with (fail)
              go_cut [11, 14] from 143 to 155 (fun v11 v14 wx => v11 = .int .i64 ((i + 1 : Nat) : Int) ∧ v14 = .bool (decide (bt (tx t) (i + 1) = 45)) ∧ wc = wx)
              case first =>
                by_cases hl1 : i + 1 < t.size
                · have HBT := Hd.mk (bt_get t (i + 1) hl1)
                  by_cases h45 : t[i + 1].toNat = 45
                  · have hb : ((t[i + 1].toNat : Int) == 45) = true := by simp; omega
                    go_wp2_with fail
                    go_meet
                    exact ⟨by go_num, by rw [← HBT.out, decide_eq_true h45], rfl⟩
                  · have hb : ((t[i + 1].toNat : Int) == 45) = false := by simp; omega
                    go_wp2_with fail
                    go_meet
                    exact ⟨by go_num, by rw [← HBT.out, decide_eq_false h45], rfl⟩
                · have hz : Hd (bt (tx t) (i + 1) = 0) := ⟨bt_out (by rw [tx_length]; omega)⟩
                  go_wp2_with fail
                  go_meet
                  exact ⟨by go_num, by rw [hz.out]; rfl, rfl⟩
              case rest => as_aux_lemma =>
                obtain ⟨rfl, rfl, rfl⟩ := hcut
                obtain ⟨k, hk⟩ : ∃ k, k = i + 1 := ⟨_, rfl⟩
                rw [← hk]
                have HK := Hd.mk hk
                have hk1 : k ≤ t.size := by omega
                clear hk
                go_upto_region 40 with (fail)
                go_cut [171] from 156 to 171 (fun v171 wx => v171 = .bool (decide (bt (tx t) k = 43 ∨ bt (tx t) k = 45)) ∧ wc = wx)
                case first =>
                  by_cases hl1 : k < t.size
                  · have HBT := Hd.mk (bt_get t k hl1)
                    by_cases h43 : t[k].toNat = 43
                    · have hb : ((t[k].toNat : Int) == 43) = true := by simp; omega
                      go_wp2_with fail
                      go_meet
                      exact ⟨by rw [← HBT.out, decide_eq_true (.inl h43)], rfl⟩
                    · have hb : ((t[k].toNat : Int) == 43) = false := by simp; omega
                      by_cases h45 : t[k].toNat = 45
                      · have hb2 : ((t[k].toNat : Int) == 45) = true := by simp; omega
                        go_wp2_with fail
                        go_meet
                        exact ⟨by rw [← HBT.out, decide_eq_true (.inr h45)], rfl⟩
                      · have hb2 : ((t[k].toNat : Int) == 45) = false := by simp; omega
                        go_wp2_with fail
                        go_meet
                        exact ⟨by rw [← HBT.out, decide_eq_false (by rintro (h | h); exact h43 h; exact h45 h)], rfl⟩
                  · have hz : Hd (bt (tx t) k = 0) := ⟨bt_out (by rw [tx_length]; omega)⟩
                    go_wp2_with fail
                    go_meet
                    exact ⟨by rw [hz.out]; rfl, rfl⟩
                case rest =>
                  obtain ⟨rfl, rfl⟩ := hcut
                  go_upto_if 171 with (fail)
                  go_cut [11] from 171 to 173 (fun v11 wx => v11 = .int .i64 (sk (tx t) k : Nat) ∧ wc = wx)
                  case first =>
                    generalize hd : decide (bt (tx t) k = 43 ∨ bt (tx t) k = 45) = b
                    cases b
                    case true =>
                      have hd2 := Hd.mk (of_decide_eq_true hd)
                      clear hd
                      go_wp2_with fail
                      go_meet
                      exact ⟨by unfold sk; rw [if_pos hd2.out]; go_num, rfl⟩
                    case false =>
                      have hd2 := Hd.mk (of_decide_eq_false hd)
                      clear hd
                      go_wp2_with fail
                      go_meet
                      exact ⟨by unfold sk; rw [if_neg hd2.out], rfl⟩
                  case rest =>
                    obtain ⟨rfl, rfl⟩ := hcut
                    obtain ⟨j, hj⟩ : ∃ j, j = sk (tx t) k := ⟨_, rfl⟩
                    rw [← hj]
                    have hj1 : j ≤ t.size := by
                      rw [hj]; unfold sk; split
                      · rename_i h
                        have := bt_in (l := tx t) (k := k) (by omega)
                        rw [tx_length] at this; omega
                      · exact hk1
                    have HJ := Hd.mk hj
                    clear hj
                    go_upto_region 42 with (fail)
                    go_cut [189] from 174 to 189 (fun v189 wx => v189 = .bool (decide (¬ (48 ≤ bt (tx t) j ∧ bt (tx t) j ≤ 57))) ∧ wc = wx)
                    case first =>
                      by_cases hl1 : j < t.size
                      · have HBT := Hd.mk (bt_get t j hl1)
                        by_cases h48 : (t[j].toNat : Int) < 48
                        · go_wp2_with fail
                          go_meet
                          exact ⟨by rw [← HBT.out, decide_eq_true (by omega)], rfl⟩
                        · by_cases h57 : (57 : Int) < (t[j].toNat : Int)
                          · have hb : decide ((57 : Int) < (t[j].toNat : Int)) = true := decide_eq_true h57
                            go_wp2_with fail
                            go_meet
                            exact ⟨by rw [← HBT.out, decide_eq_true (by omega)]; try exact congrArg Value.bool (decide_eq_true h57), rfl⟩
                          · have hb : decide ((57 : Int) < (t[j].toNat : Int)) = false := decide_eq_false h57
                            go_wp2_with fail
                            go_meet
                            exact ⟨by rw [← HBT.out]; first | exact congrArg Value.bool (decide_eq_false (by omega)).symm | exact congrArg Value.bool ((decide_eq_false (by omega)).trans (decide_eq_false (by omega)).symm) | (rw [hb]; exact congrArg Value.bool (decide_eq_false (by omega)).symm), rfl⟩
                      · have hz : Hd (bt (tx t) j = 0) := ⟨bt_out (by rw [tx_length]; omega)⟩
                        go_wp2_with fail
                        go_meet
                        exact ⟨by rw [hz.out]; rfl, rfl⟩
                    case rest =>
                      obtain ⟨rfl, rfl⟩ := hcut
                      go_upto_if 189 with (fail)
                      by_cases hno : ¬ (48 ≤ bt (tx t) j ∧ bt (tx t) j ≤ 57)
                      · have hnb : decide (¬ (48 ≤ bt (tx t) j ∧ bt (tx t) j ≤ 57)) = true := decide_eq_true hno
                        rw [hnb]
                        have HNO := Hd.mk hno
                        clear hno hnb
                        go_wp2_with fail
                        go_ret2
                        refine ⟨HBe.out, .inl ⟨?_, rfl⟩⟩
                        rw [HRB.out, body_exno HSTOP.out rfl hmy.out (ex_no (by rw [← HK.out, ← HJ.out]; exact HNO.out))]; rfl
                      · have hnb : decide (¬ (48 ≤ bt (tx t) j ∧ bt (tx t) j ≤ 57)) = false := decide_eq_false hno
                        rw [hnb]
                        have HNO := Hd.mk (Classical.not_not.1 hno)
                        clear hno hnb
                        go_wp2_with fail
                        go_loopg [11, 15] (t.size - j) (fun m v11 v15 wr => ∃ (q e : Nat) (u : Bool), v11 = .int .i64 q ∧ v15 = .int .i64 e ∧ q + m = t.size ∧ e ≤ 99999 ∧ Hd (eg 0 false ((tx t).drop j) = eg e u ((tx t).drop q)) ∧ wc = wr)
                        case atStart => exact ⟨j, 0, false, rfl, rfl, by omega, by omega, ⟨rfl⟩, rfl⟩
                        case round => as_aux_lemma =>
                          obtain ⟨q, e, u, rfl, rfl, hqm, he, HQ, rfl⟩ := hrel
                          cases gk with
                          | zero =>
                            obtain rfl : q = t.size := by omega
                            obtain ⟨q, hq⟩ : ∃ q, q = t.size := ⟨_, rfl⟩
                            rw [← hq] at HQ
                            have HX : Hd (eg e u ((tx t).drop q) = (e, u, (tx t).drop q)) := ⟨eg_end (by rw [bt_out (by rw [tx_length]; omega)]; omega) (by rw [bt_out (by rw [tx_length]; omega)]; omega)⟩
                            have HEE : Hd (ex ((tx t).drop (i + 1)) = some (if bt (tx t) k = 45 then -(e : Int) else (e : Int), u, (tx t).drop q)) := by
                              refine ⟨?_⟩
                              rw [← HK.out]
                              exact ex_yes (by rw [← HJ.out]; exact HNO.out) (by rw [← HJ.out, HQ.out]; exact HX.out)
                            have HB2 := Hd.mk (body_exyes HSTOP.out rfl hmy.out HEE.out)
                            clear HEE HX HQ
                            generalize hng : decide (bt (tx t) k = 45) = ng
                            have hxb2 := hxb
                            cases ng
                            case true =>
                              have hn2 := Hd.mk (of_decide_eq_true hng)
                              clear hng
                              go_wp2_with fail
                              go_meet
                              case rel => exact ⟨q, -(e : Int), u, by go_num, by rw [hq], by omega, by omega, by omega, ⟨by rw [HB2.out, if_pos hn2.out]⟩, rfl⟩
                            case false =>
                              have hn2 := Hd.mk (of_decide_eq_false hng)
                              clear hng
                              go_wp2_with fail
                              go_meet
                              case rel => exact ⟨q, (e : Int), u, by go_num, by rw [hq], by omega, by omega, by omega, ⟨by rw [HB2.out, if_neg hn2.out]⟩, rfl⟩
                          | succ m =>
                            have hlq : q < t.size := by omega
                            have HBT := Hd.mk (bt_get t q hlq)
                            have h256 := UInt8.toNat_lt t[q]
                            by_cases h95 : t[q].toNat = 95
                            · have hb : ((t[q].toNat : Int) == 95) = true := by simp; omega
                              have hb2 : ((t[q].toNat : Int) != 95) = false := by simp; omega
                              have hb3 : (48 : Int) ≤ (t[q].toNat : Int) := by omega
                              have hb4 : ¬ (t[q].toNat : Int) ≤ 57 := by omega
                              go_wp2_with fail
                              go_roundg m
                              case measure => omega
                              case rel => exact ⟨q + 1, e, true, by go_num, rfl, by omega, by omega, ⟨by rw [HQ.out, eg_und (by rw [tx_length]; exact hlq) (by rw [← HBT.out]; exact h95)]⟩, rfl⟩
                            · have hb : ((t[q].toNat : Int) == 95) = false := by simp; omega
                              have hb2 : ((t[q].toNat : Int) != 95) = true := by simp; omega
                              by_cases hdg : 48 ≤ t[q].toNat ∧ t[q].toNat ≤ 57
                              · have hb3 : (48 : Int) ≤ (t[q].toNat : Int) := by omega
                                have hb4 : (t[q].toNat : Int) ≤ 57 := by omega
                                have HDG : Hd (48 ≤ bt (tx t) q ∧ bt (tx t) q ≤ 57) := ⟨by rw [← HBT.out]; exact hdg⟩
                                by_cases he4 : (e : Int) < 10000
                                · go_wp2_with fail
                                  go_roundg m
                                  case measure => omega
                                  case rel => exact ⟨q + 1, e * 10 + (t[q].toNat - 48), u, by go_num, by go_num, by omega, by omega, ⟨by rw [HQ.out, eg_dig (by rw [tx_length]; exact hlq) HDG.out, ← HBT.out, if_pos (by omega)]⟩, rfl⟩
                                · go_wp2_with fail
                                  go_roundg m
                                  case measure => omega
                                  case rel => exact ⟨q + 1, e, u, by go_num, rfl, by omega, by omega, ⟨by rw [HQ.out, eg_dig (by rw [tx_length]; exact hlq) HDG.out, if_neg (by omega)]⟩, rfl⟩
                              · have HX : Hd (eg e u ((tx t).drop q) = (e, u, (tx t).drop q)) := ⟨eg_end (by rw [← HBT.out]; exact hdg) (by rw [← HBT.out]; exact h95)⟩
                                by_cases hb3 : (48 : Int) ≤ (t[q].toNat : Int)
                                · have hb4 : ¬ (t[q].toNat : Int) ≤ 57 := by omega
                                  have HEE : Hd (ex ((tx t).drop (i + 1)) = some (if bt (tx t) k = 45 then -(e : Int) else (e : Int), u, (tx t).drop q)) := by
                                    refine ⟨?_⟩
                                    rw [← HK.out]
                                    exact ex_yes (by rw [← HJ.out]; exact HNO.out) (by rw [← HJ.out, HQ.out]; exact HX.out)
                                  have HB2 := Hd.mk (body_exyes HSTOP.out rfl hmy.out HEE.out)
                                  clear HEE HX HQ
                                  generalize hng : decide (bt (tx t) k = 45) = ng
                                  have hxb2 := hxb
                                  cases ng
                                  case true =>
                                    have hn2 := Hd.mk (of_decide_eq_true hng)
                                    clear hng
                                    go_wp2_with fail
                                    go_meet
                                    case rel => exact ⟨q, -(e : Int), u, by go_num, rfl, by omega, by omega, by omega, ⟨by rw [HB2.out, if_pos hn2.out]⟩, rfl⟩
                                  case false =>
                                    have hn2 := Hd.mk (of_decide_eq_false hng)
                                    clear hng
                                    go_wp2_with fail
                                    go_meet
                                    case rel => exact ⟨q, (e : Int), u, by go_num, rfl, by omega, by omega, by omega, ⟨by rw [HB2.out, if_neg hn2.out]⟩, rfl⟩
                                · skip
                                  have HEE : Hd (ex ((tx t).drop (i + 1)) = some (if bt (tx t) k = 45 then -(e : Int) else (e : Int), u, (tx t).drop q)) := by
                                    refine ⟨?_⟩
                                    rw [← HK.out]
                                    exact ex_yes (by rw [← HJ.out]; exact HNO.out) (by rw [← HJ.out, HQ.out]; exact HX.out)
                                  have HB2 := Hd.mk (body_exyes HSTOP.out rfl hmy.out HEE.out)
                                  clear HEE HX HQ
                                  generalize hng : decide (bt (tx t) k = 45) = ng
                                  have hxb2 := hxb
                                  cases ng
                                  case true =>
                                    have hn2 := Hd.mk (of_decide_eq_true hng)
                                    clear hng
                                    go_wp2_with fail
                                    go_meet
                                    case rel => exact ⟨q, -(e : Int), u, by go_num, rfl, by omega, by omega, by omega, ⟨by rw [HB2.out, if_pos hn2.out]⟩, rfl⟩
                                  case false =>
                                    have hn2 := Hd.mk (of_decide_eq_false hng)
                                    clear hng
                                    go_wp2_with fail
                                    go_meet
                                    case rel => exact ⟨q, (e : Int), u, by go_num, rfl, by omega, by omega, by omega, ⟨by rw [HB2.out, if_neg hn2.out]⟩, rfl⟩
          case rest => as_aux_lemma =>
            obtain ⟨k, e, u, rfl, rfl, hkl, he1, he2, HB, rfl⟩ := hcut
            by_cases hkt : k < t.size
            · go_wp2_with fail
              go_ret2
              exact ⟨HBe.out, .inl ⟨by rw [HRB.out, HB.out, whl_more (by rw [tx_length]; exact hkt)], rfl⟩⟩
            · have HR2 : Hd (R = some ⟨hex, ds, frac, e, und || u⟩) := ⟨by rw [HRB.out, HB.out, whl_end (by rw [tx_length]; omega)]⟩
              clear HRB HB
              cases hex
              case false =>
                obtain ⟨-, hx0, HGr⟩ := H.out.inv.dc rfl
                have hfr := H.out.inv.fr
                have hlen := H.out.inv.len
                have h10 := Hd.mk (H.out.inv.d10 rfl)
                simp only at HGr hfr hlen h10
                subst hx0
                obtain ⟨dp, hdp⟩ : ∃ dp : Int, dp = (ds.length : Int) - (frac : Nat) := ⟨_, rfl⟩
                rw [← hdp] at HGr
                have hdpb : -2000 ≤ dp ∧ dp ≤ 2000 := by omega
                have HDP := Hd.mk hdp
                clear hdp
                obtain ⟨A, c, hv⟩ := HGr.own.shape
                subst hv
                have hc0 := at_c0 HGr.blk
                have hc1 := at_c1 HGr.blk
                have hf1 := free_c HGr.blk 1
                have HGG := Hd.mk HGr
                clear HGr
                go_wp2_with fail
                have HGS := Hd.mk (HGG.out.setP (dp + e))
                by_cases hl0 : 0 < ds.length
                · refine (trim_any g ds _ _ (HGS.out.dc hl0) (by omega)).mono ?_
                  rintro e' w' ⟨rfl, hd4, hb4⟩
                  go_wp2_with fail
                  go_ret2
                  exact ⟨HBW.out _ (by rw [← HG.out]; exact HGS.out.bel.trans hb4), .inr ⟨_, g, HR2.out, rfl, Nat.le_of_eq HG.out.symm, rd_dec h10.out hl0 (by omega) (by omega) he1 he2 (by rw [HDP.out]) hd4⟩⟩
                · obtain rfl : ds = [] := List.eq_nil_of_length_eq_zero (by omega)
                  refine (trim_empty g _ _ _ _ HGS.out.blk).mono ?_
                  rintro e' w' ⟨rfl, hd4, hb4⟩
                  go_wp2_with fail
                  go_ret2
                  exact ⟨HBW.out _ (by rw [← HG.out]; exact HGS.out.bel.trans hb4), .inr ⟨_, g, HR2.out, rfl, Nat.le_of_eq HG.out.symm, rd_dec0 hd4⟩⟩
              case true =>
                have hmt := H.out.inv.nd
                have HXI := Hd.mk (H.out.inv.hx rfl)
                clear H
                go_wp2_with fail
                refine (newDecimal_any mt _ hmt).mono ?_
                rintro e' w' ⟨g2, rfl, hg2, hb2, hd2⟩
                have HB2 := Hd.mk hb2
                have HD2 := Hd.mk hd2
                clear hb2 hd2
                have hxe : -105000 ≤ x + e ∧ x + e ≤ 105000 := by omega
                obtain ⟨y, hy⟩ : ∃ y, y = x + e := ⟨_, rfl⟩
                rw [← hy] at hxe ⊢
                have HY := Hd.mk hy
                clear hy
                have HBB : Hd (Below w.heap.size w w') := ⟨HBe.out.trans (HB2.out.mono HBe.out.size)⟩
                by_cases hm0 : mt = 0
                · have hb0 : ((mt : Int) == 0) = true := by simp; omega
                  go_wp2_with fail
                  go_ret2
                  exact ⟨HBB.out.alloc (by have := HBe.out.size; have := HB2.out.size; omega) _, .inr ⟨_, _, HR2.out, rfl, HBB.out.size, ⟨.inl ⟨⟨_, _, _, heap_alloc_new _ _⟩, by rw [mag_hex HXI.out.2.1, ← HXI.out.1, hm0, rg_zero]⟩⟩⟩⟩
                · have hb0 : ((mt : Int) == 0) = false := by simp; omega
                  by_cases hlo : y < -1300
                  · have hlb : decide (y < (-1300 : Int)) = true := decide_eq_true hlo
                    go_wp2_with fail
                    go_ret2
                    exact ⟨HBB.out.alloc (by have := HBe.out.size; have := HB2.out.size; omega) _, .inr ⟨_, _, HR2.out, rfl, HBB.out.size, ⟨.inl ⟨⟨_, _, _, heap_alloc_new _ _⟩, by rw [mag_hex HXI.out.2.1, ← HXI.out.1, ← HY.out, rg_small hmt hlo]⟩⟩⟩⟩
                  · have hlb : decide (y < (-1300 : Int)) = false := decide_eq_false hlo
                    by_cases hhi : 1100 < y
                    · have hhb : decide ((1100 : Int) < y) = true := decide_eq_true hhi
                      go_wp2_with fail
                      have HN := nd_val hmt (by omega) 0
                      refine (shift_any (L := 20) (D := 20) (k := 1100) HD2.out HN.1 (by omega) (by omega) (by omega) (by omega)).mono ?_
                      rintro e' w4 ⟨rfl, hd4, hb4, hg4⟩
                      go_wp2_with fail
                      go_ret2
                      exact ⟨HBB.out.trans (hb4.below.mono (by have := HBe.out.size; have := HB2.out.size; omega)), .inr ⟨_, g2, HR2.out, rfl, Nat.le_trans HBe.out.size hg2, rd_hex HXI.out.2.1 HXI.out.1 (by omega) hmt (by omega) (by omega) (.inr ⟨by rw [← HY.out]; exact hhi, rfl⟩) hd4 hg4⟩⟩
                    · have hhb : decide ((1100 : Int) < y) = false := decide_eq_false hhi
                      go_wp2_with fail
                      have HN := nd_val hmt (by omega) 0
                      refine (shift_any (L := 20) (D := 20) (k := y) HD2.out HN.1 (by omega) (by omega) (by omega) (by omega)).mono ?_
                      rintro e' w4 ⟨rfl, hd4, hb4, hg4⟩
                      go_wp2_with fail
                      go_ret2
                      exact ⟨HBB.out.trans (hb4.below.mono (by have := HBe.out.size; have := HB2.out.size; omega)), .inr ⟨_, g2, HR2.out, rfl, Nat.le_trans HBe.out.size hg2, rd_hex HXI.out.2.1 HXI.out.1 (by omega) hmt (by omega) (by omega) (.inl HY.out) hd4 hg4⟩⟩
end Go.Proofs.YtknjgopapbemcaaGreatDoor
