/- Gi: joined by merge.py for the claim. -/
import Derived.Test.YtknjgopapbemcaaGreatDoorXGh
/- Walk of internal/strconv's underscoreOK. -/
namespace Go.Proofs.YtknjgopapbemcaaGreatDoor
open Go.RowKit
set_option linter.unusedVariables false
set_option linter.unusedSimpArgs false
theorem slow_any (c : Nat) (w : World) (hc : c < 256) : Calls Tryz.prog 110 #[.int .u8 (c : Int)] w fun e w' => e = .returned (.int .u8 (lw c : Nat)) ∧ w = w' := by
  go_enter Tryz.func110, Tryz.ntmps110
  go_wp2
  go_ret
  exact ⟨ret_i (lw_bits c hc), rfl⟩
set_option maxHeartbeats 1000000 in
theorem suok_any (s : ByteArray) (w : World) (hs : s.size ≤ 1000) :
    Calls Tryz.prog 111 #[.string s] w fun e w' => e = .returned (.bool (uOK (tx s))) ∧ w = w' := by
  obtain ⟨R, hR⟩ : ∃ R, R = uOK (tx s) := ⟨_, rfl⟩
  rw [← hR]
  go_enter Tryz.func111, Tryz.ntmps111
  go_upto_region 3 with (fail)
  go_cut [18] from 6 to 18 (fun v18 wc => v18 = .bool (hasSgn (tx s)) ∧ w = wc)
  case first =>
    rcases Nat.eq_zero_or_pos s.size with h0 | h0
    · have hz : decide ((1 : Int) ≤ (s.size : Int)) = false := decide_eq_false (by omega)
      have hr : hasSgn (tx s) = false := by
        unfold hasSgn; rw [bt_end (by rw [tx_length]; omega)]; rfl
      go_wp2
      go_meet
      exact ⟨by rw [hr], rfl⟩
    · have hz : decide ((1 : Int) ≤ (s.size : Int)) = true := decide_eq_true (by omega)
      have h01 : 1 ≤ s.size := h0
      have hb := bt_get s 0 h0
      have hr : hasSgn (tx s) = decide (s[0].toNat = 43 ∨ s[0].toNat = 45) := by
        unfold hasSgn; rw [← hb]
      clear hb
      have HR := Hd.mk hr
      clear hr
      by_cases h1 : s[0].toNat = 45
      · have hb : ((s[0].toNat : Int) == 45) = true := by simp; omega
        go_wp2
        go_meet
        exact ⟨by rw [HR.out, h1]; rfl, rfl⟩
      · have hb : ((s[0].toNat : Int) == 45) = false := by simp; omega
        by_cases h2 : s[0].toNat = 43
        · have hb2 : ((s[0].toNat : Int) == 43) = true := by simp; omega
          go_wp2
          go_meet
          exact ⟨by rw [HR.out, h2]; rfl, rfl⟩
        · have hb2 : ((s[0].toNat : Int) == 43) = false := by simp; omega
          go_wp2
          go_meet
          exact ⟨by rw [HR.out, decide_eq_false (by omega)], rfl⟩
  case rest =>
    obtain ⟨rfl, rfl⟩ := hcut
    go_upto_if 18 with (fail)
    go_cut [0] from 18 to 20 (fun v0 wc => (∃ t : ByteArray, v0 = .string t ∧ tx t = noSgn (tx s) ∧ t.size ≤ 1000) ∧ w = wc)
    case first =>
      generalize hg : hasSgn (tx s) = b
      cases b
      case true =>
        have h0 : 1 ≤ s.size := by
          rcases Nat.eq_zero_or_pos s.size with h0 | h0
          · unfold hasSgn at hg; rw [bt_end (by rw [tx_length]; omega)] at hg; simp at hg
          · exact h0
        go_wp2
        go_meet
        exact ⟨⟨_, rfl, by rw [tx_drop]; unfold noSgn; rw [if_pos hg], by rw [size_drop]; omega⟩, rfl⟩
      case false =>
        go_wp2
        go_meet
        exact ⟨⟨_, rfl, by unfold noSgn; rw [if_neg (by rw [hg]; simp)], hs⟩, rfl⟩
    case rest =>
      obtain ⟨⟨t, rfl, ht, hts⟩, rfl⟩ := hcut
      go_upto_region 6 with (fail)
      go_cut [46] from 21 to 46 (fun v46 wc => v46 = .bool (uPre (tx t)) ∧ w = wc)
      case first =>
        by_cases h2 : 2 ≤ t.size
        · have hb0 := bt_get t 0 (by omega)
          have hb1 := bt_get t 1 (by omega)
          have HP : Hd (uPre (tx t) = decide (t[0].toNat = 48 ∧ (lw t[1].toNat = 98 ∨ lw t[1].toNat = 111 ∨ lw t[1].toNat = 120))) := by
            refine ⟨?_⟩
            unfold uPre
            rw [← hb0, ← hb1, tx_length]
            simp [h2]
          clear hb0 hb1
          have h256 := UInt8.toNat_lt t[1]
          by_cases h3 : t[0].toNat = 48
          · have hx0 : ((t[0].toNat : Int) == 48) = true := by simp; omega
            by_cases h4 : lw t[1].toNat = 98
            · have hx1 : ((lw t[1].toNat : Int) == 98) = true := by simp; omega
              go_wp2_with (go_at_call 110; ((with_reducible refine (slow_any _ _ h256).mono ?_); rintro e' w' ⟨rfl, rfl⟩))
              go_meet
              exact ⟨by rw [HP.out, decide_eq_true (by omega)], rfl⟩
            · have hx1 : ((lw t[1].toNat : Int) == 98) = false := by simp; omega
              by_cases h5 : lw t[1].toNat = 111
              · have hx2 : ((lw t[1].toNat : Int) == 111) = true := by simp; omega
                go_wp2_with (go_at_call 110; ((with_reducible refine (slow_any _ _ h256).mono ?_); rintro e' w' ⟨rfl, rfl⟩))
                go_meet
                exact ⟨by rw [HP.out, decide_eq_true (by omega)], rfl⟩
              · have hx2 : ((lw t[1].toNat : Int) == 111) = false := by simp; omega
                by_cases h6 : lw t[1].toNat = 120
                · have hx3 : ((lw t[1].toNat : Int) == 120) = true := by simp; omega
                  go_wp2_with (go_at_call 110; ((with_reducible refine (slow_any _ _ h256).mono ?_); rintro e' w' ⟨rfl, rfl⟩))
                  go_meet
                  exact ⟨by rw [HP.out, decide_eq_true (by omega)], rfl⟩
                · have hx3 : ((lw t[1].toNat : Int) == 120) = false := by simp; omega
                  go_wp2_with (go_at_call 110; ((with_reducible refine (slow_any _ _ h256).mono ?_); rintro e' w' ⟨rfl, rfl⟩))
                  go_meet
                  exact ⟨by rw [HP.out, decide_eq_false (by omega)], rfl⟩
          · have hx0 : ((t[0].toNat : Int) == 48) = false := by simp; omega
            go_wp2
            go_meet
            exact ⟨by rw [HP.out, decide_eq_false (by omega)], rfl⟩
        · have hr : uPre (tx t) = false := by unfold uPre; rw [tx_length]; simp; omega
          go_wp2
          go_meet
          exact ⟨by rw [hr], rfl⟩
      case rest =>
        obtain ⟨rfl, rfl⟩ := hcut
        go_upto_if 46 with (fail)
        go_cut [3, 4, 5] from 46 to 50 (fun v3 v4 v5 wc => (∃ (last k : Nat) (hex : Bool), v3 = .int .i32 last ∧ v4 = .int .i64 k ∧ v5 = .bool hex ∧ R = uGo hex last ((tx t).drop k) ∧ k ≤ t.size ∧ (last = 48 ∨ last = 94)) ∧ w = wc)
        case first =>
          generalize hp : uPre (tx t) = b
          cases b
          case true =>
            have h2 : 2 ≤ t.size := by unfold uPre at hp; rw [tx_length] at hp; simp at hp; omega
            have hb1 := bt_get t 1 (by omega)
            have h256 := UInt8.toNat_lt t[1]
            have HE : Hd (R = uGo (decide (lw t[1].toNat = 120)) 48 ((tx t).drop 2)) := by
              refine ⟨?_⟩
              rw [hR]; unfold uOK
              rw [← ht, if_pos hp, ← hb1]
            clear hb1
            by_cases h4 : lw t[1].toNat = 120
            · have hx : ((lw t[1].toNat : Int) == 120) = true := by simp; omega
              go_wp2_with (go_at_call 110; ((with_reducible refine (slow_any _ _ h256).mono ?_); rintro e' w' ⟨rfl, rfl⟩))
              go_meet
              exact ⟨⟨48, 2, true, rfl, rfl, rfl, by rw [HE.out, decide_eq_true h4], h2, .inl rfl⟩, rfl⟩
            · have hx : ((lw t[1].toNat : Int) == 120) = false := by simp; omega
              go_wp2_with (go_at_call 110; ((with_reducible refine (slow_any _ _ h256).mono ?_); rintro e' w' ⟨rfl, rfl⟩))
              go_meet
              exact ⟨⟨48, 2, false, rfl, rfl, rfl, by rw [HE.out, decide_eq_false h4], h2, .inl rfl⟩, rfl⟩
          case false =>
            have HE : Hd (R = uGo false 94 (tx t)) := by
              refine ⟨?_⟩
              rw [hR]; unfold uOK
              rw [← ht, if_neg (by rw [hp]; simp)]
            go_wp2
            go_meet
            exact ⟨⟨94, 0, false, rfl, rfl, rfl, by rw [List.drop_zero]; exact HE.out, Nat.zero_le _, .inr rfl⟩, rfl⟩
        case rest =>
          obtain ⟨⟨last, k0, hex, rfl, rfl, rfl, hE, hk0, hlast⟩, rfl⟩ := hcut
          clear hR ht hs
          have HE := Hd.mk hE
          clear hE
          go_wp2_with fail
          go_loop [3, 4] (fun v3 v4 => ∃ (k : Nat) (last : Nat), v3 = .int .i32 last ∧ v4 = .int .i64 k ∧ k ≤ t.size ∧ Hd (R = uGo hex last ((tx t).drop k)) ∧ (last = 48 ∨ last = 94 ∨ last = 95 ∨ last = 33)) (fun _ v => t.size - (intOf v).toNat)
          case atStart => exact ⟨k0, last, rfl, rfl, hk0, HE, by omega⟩
          case round =>
            clear HE hlast hk0
            obtain ⟨k, last, rfl, rfl, hk, HE, hlast⟩ := hrel
            by_cases hlt : k < t.size
            · have hx := bt_get t k hlt
              have h256 := UInt8.toNat_lt t[k]
              have HD : Hd ((tx t).drop k = t[k].toNat :: (tx t).drop (k + 1)) := ⟨by rw [hx]; exact drop_bt (by rw [tx_length]; exact hlt)⟩
              clear hx
              go_upto_region 12 with (fail)
              go_cut [83] from 57 to 83 (fun v83 wc => v83 = .bool (uD hex t[k].toNat) ∧ w = wc)
              case first =>
                by_cases h1 : (48 : Int) ≤ (t[k].toNat : Int) ∧ (t[k].toNat : Int) ≤ 57
                · obtain ⟨h1, h2⟩ := h1
                  go_wp2
                  go_meet
                  exact ⟨by unfold uD; rw [decide_eq_true (by omega)], rfl⟩
                · cases hex
                  case false =>
                    by_cases h2 : (48 : Int) ≤ (t[k].toNat : Int)
                    · have h3 : ¬ (t[k].toNat : Int) ≤ 57 := by omega
                      go_wp2
                      go_meet
                      exact ⟨by rw [uD_f (by rintro (⟨_, _⟩ | ⟨h9, _, _⟩) <;> first | omega | exact Bool.noConfusion h9)], rfl⟩
                    · go_wp2
                      go_meet
                      exact ⟨by rw [uD_f (by rintro (⟨_, _⟩ | ⟨h9, _, _⟩) <;> first | omega | exact Bool.noConfusion h9)], rfl⟩
                  case true =>
                    by_cases h4 : (97 : Int) ≤ (lw t[k].toNat : Int)
                    · by_cases h5 : (lw t[k].toNat : Int) ≤ 102
                      · by_cases h2 : (48 : Int) ≤ (t[k].toNat : Int)
                        · have h3 : ¬ (t[k].toNat : Int) ≤ 57 := by omega
                          go_wp2_with (go_at_call 110; ((with_reducible refine (slow_any _ _ h256).mono ?_); rintro e' w' ⟨rfl, rfl⟩))
                          go_meet
                          exact ⟨by unfold uD; rw [decide_eq_true (by simp; omega)], rfl⟩
                        · go_wp2_with (go_at_call 110; ((with_reducible refine (slow_any _ _ h256).mono ?_); rintro e' w' ⟨rfl, rfl⟩))
                          go_meet
                          exact ⟨by unfold uD; rw [decide_eq_true (by simp; omega)], rfl⟩
                      · by_cases h2 : (48 : Int) ≤ (t[k].toNat : Int)
                        · have h3 : ¬ (t[k].toNat : Int) ≤ 57 := by omega
                          go_wp2_with (go_at_call 110; ((with_reducible refine (slow_any _ _ h256).mono ?_); rintro e' w' ⟨rfl, rfl⟩))
                          go_meet
                          exact ⟨by rw [uD_f (by rintro (⟨_, _⟩ | ⟨h9, _, _⟩) <;> first | omega | exact Bool.noConfusion h9)]; exact congrArg Value.bool (decide_eq_false (by omega)), rfl⟩
                        · go_wp2_with (go_at_call 110; ((with_reducible refine (slow_any _ _ h256).mono ?_); rintro e' w' ⟨rfl, rfl⟩))
                          go_meet
                          exact ⟨by rw [uD_f (by rintro (⟨_, _⟩ | ⟨h9, _, _⟩) <;> first | omega | exact Bool.noConfusion h9)]; exact congrArg Value.bool (decide_eq_false (by omega)), rfl⟩
                    · by_cases h2 : (48 : Int) ≤ (t[k].toNat : Int)
                      · have h3 : ¬ (t[k].toNat : Int) ≤ 57 := by omega
                        go_wp2_with (go_at_call 110; ((with_reducible refine (slow_any _ _ h256).mono ?_); rintro e' w' ⟨rfl, rfl⟩))
                        go_meet
                        exact ⟨by rw [uD_f (by rintro (⟨_, _⟩ | ⟨h9, _, _⟩) <;> first | omega | exact Bool.noConfusion h9)], rfl⟩
                      · go_wp2_with (go_at_call 110; ((with_reducible refine (slow_any _ _ h256).mono ?_); rintro e' w' ⟨rfl, rfl⟩))
                        go_meet
                        exact ⟨by rw [uD_f (by rintro (⟨_, _⟩ | ⟨h9, _, _⟩) <;> first | omega | exact Bool.noConfusion h9)], rfl⟩
              case rest =>
                obtain ⟨rfl, rfl⟩ := hcut
                generalize hu : uD hex t[k].toNat = b
                cases b
                case true =>
                  go_wp2
                  go_round
                  case rel => exact ⟨k + 1, 48, rfl, by go_num, by omega, ⟨by rw [HE.out, HD.out, uGo_dig hu]⟩, by omega⟩
                  case measure => simp [intOf]; omega
                case false =>
                  by_cases h95 : t[k].toNat = 95
                  · have hb : ((t[k].toNat : Int) == 95) = true := by simp; omega
                    have hb2 : ((t[k].toNat : Int) != 95) = false := by simp; omega
                    by_cases h48 : last = 48
                    · have hb3 : ((last : Int) != 48) = false := by simp; omega
                      go_wp2
                      go_round
                      case rel => exact ⟨k + 1, 95, rfl, by go_num, by omega, ⟨by rw [HE.out, HD.out, uGo_und hu h95 h48]⟩, by omega⟩
                      case measure => simp [intOf]; omega
                    · have hb3 : ((last : Int) != 48) = true := by simp; omega
                      go_wp2
                      go_ret
                      exact ⟨ret_b (by rw [HE.out, HD.out, uGo_no hu (.inl ⟨h95, h48⟩)]), rfl⟩
                  · have hb : ((t[k].toNat : Int) == 95) = false := by simp; omega
                    have hb2 : ((t[k].toNat : Int) != 95) = true := by simp; omega
                    by_cases hl95 : last = 95
                    · have hb3 : ((last : Int) == 95) = true := by simp; omega
                      go_wp2
                      go_ret
                      exact ⟨ret_b (by rw [HE.out, HD.out, uGo_no hu (.inr ⟨h95, hl95⟩)]), rfl⟩
                    · have hb3 : ((last : Int) == 95) = false := by simp; omega
                      go_wp2
                      go_round
                      case rel => exact ⟨k + 1, 33, rfl, by go_num, by omega, ⟨by rw [HE.out, HD.out, uGo_oth hu h95 hl95]⟩, by omega⟩
                      case measure => simp [intOf]; omega
            · go_wp2
              go_ret
              refine ⟨ret_b ?_, rfl⟩
              rw [HE.out, List.drop_of_length_le (by rw [tx_length]; omega)]
              rcases hlast with rfl | rfl | rfl | rfl <;> rfl
end Go.Proofs.YtknjgopapbemcaaGreatDoor
