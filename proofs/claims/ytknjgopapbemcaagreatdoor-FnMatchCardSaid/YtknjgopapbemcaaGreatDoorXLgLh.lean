/- Lg Lh: joined by merge.py for the claim. -/
import Derived.Test.YtknjgopapbemcaaGreatDoorXBaBb
import Derived.Test.YtknjgopapbemcaaGreatDoorXPaPe
import Derived.Laws.Externs
/- Walks of lightstrconv's small functions over texts. -/
namespace Go.Proofs.YtknjgopapbemcaaGreatDoor
open Go.RowKit
set_option linter.unusedVariables false
set_option linter.unusedSimpArgs false
theorem ret_b {x y : Bool} (h : x = y) : Ending.returned (.bool x) = .returned (.bool y) := by rw [h]
theorem ret_i {k : IntKind} {x y : Int} (h : x = y) : Ending.returned (.int k x) = .returned (.int k y) := by rw [h]

theorem lw_bits (c : Nat) (hc : c < 256) : bits .or .u8 (c : Int) 32 = ((lw c : Nat) : Int) := by
  have h : ∀ i : Fin 256, bits .or .u8 ((i.val : Nat) : Int) 32 = ((lw i.val : Nat) : Int) := by decide +kernel
  exact h ⟨c, hc⟩
theorem lw_lt (c : Nat) (hc : c < 256) : lw c < 256 := by
  have h : ∀ i : Fin 256, lw i.val < 256 := by decide +kernel
  exact h ⟨c, hc⟩
theorem lower_any (c : Nat) (w : World) (hc : c < 256) : Calls Tryz.prog 82 #[.int .u8 (c : Int)] w fun e w' => e = .returned (.int .u8 (lw c : Nat)) ∧ w' = w := by
  go_enter Tryz.func82, Tryz.ntmps82
  go_wp2
  go_ret
  exact ⟨ret_i (lw_bits c hc), rfl⟩

theorem fb_name : (Tryz.f81.name == "runtime.NumGoroutine") = false := by kernel_rfl
theorem fb_body : Tryz.f81.body.isNone = true := by kernel_rfl
theorem fb_next : Extern.findNext Tryz.f81 = none := by kernel_rfl
theorem fb_find : Extern.find Tryz.f81 = some Extern.MathFloatBits.float64frombits := by kernel_rfl
theorem frombits_run (n : Int) (w : World) : (callFunc 81 #[.int .u64 n]).run Tryz.prog w = .ok (.value (.float .f64 n.toNat)) w := by
  rw [run_callFunc_extern Tryz.func81 fb_name fb_body fb_next fb_find]; rfl

theorem formOf_any (w : World) : Calls Tryz.prog 65 #[.int .i64 64] w fun e w' => e = .returned (.agg #[.int .i64 52, .int .i64 11, .int .i64 (-1023)]) ∧ Below w.heap.size w w' := by
  go_enter Tryz.func65, Tryz.ntmps65
  go_wp2
  refine bodyPost_ret (results_cell_row rfl _ _ w.heap.size 131 #[.int .i64 52, .int .i64 11, .int .i64 (-1023)] (0, 0) _ rfl (heap_alloc_new _ _) Tryz.underlying131 rfl (by kernel_rfl)) rfl ?_
  exact ⟨rfl, (Below.refl _ _).alloc (Nat.le_refl _) _⟩
theorem fail_any (a s e : ByteArray) (w : World) : Calls Tryz.prog 69 #[.string a, .string s, .string e] w fun r w' => (∃ v, r = .returned (.iface 155 v)) ∧ Below w.heap.size w w' := by
  go_enter Tryz.func69, Tryz.ntmps69
  go_wp2
  go_ret
  exact ⟨⟨_, rfl⟩, (Below.refl _ _).alloc (Nat.le_refl _) _⟩

/-- So far the texts agree. -/
structure FoldInv (s t : ByteArray) (k : Nat) : Prop where
  ok : ((tx s).take k).map lc = (tx t).take k
theorem take_snoc_bt {l : List Nat} {k : Nat} (h : k < l.length) : l.take (k + 1) = l.take k ++ [bt l k] := by
  rw [List.take_succ_eq_append_getElem h]
  unfold bt; rw [List.getD_eq_getElem?_getD, List.getElem?_eq_getElem h]; rfl
theorem FoldInv.next {s t : ByteArray} {k : Nat} (h : FoldInv s t k) (h1 : k < s.size) (h2 : k < t.size) {x y : Nat} (hx : x = bt (tx s) k) (hy : y = bt (tx t) k) (e : lc x = y) : FoldInv s t (k + 1) := by
  subst hx; subst hy
  refine ⟨?_⟩
  rw [take_snoc_bt (by rw [tx_length]; exact h1), take_snoc_bt (by rw [tx_length]; exact h2), List.map_append, h.ok, List.map_cons, e]
  rfl
theorem fold_ne {s t : ByteArray} {k : Nat} (h1 : k < s.size) (h2 : k < t.size) {x y : Nat} (hx : x = bt (tx s) k) (hy : y = bt (tx t) k) (e : ¬ lc x = y) : false = fld (tx s) (tx t) := by
  subst hx; subst hy
  symm
  unfold fld
  rw [beq_eq_false_iff_ne]
  intro he
  apply e
  have hb : bt ((tx s).map lc) k = bt (tx t) k := by rw [he]
  rw [← hb]
  unfold bt
  rw [List.getD_eq_getElem?_getD, List.getD_eq_getElem?_getD, List.getElem?_map, List.getElem?_eq_getElem (by rw [tx_length]; exact h1)]
  rfl
theorem FoldInv.done {s t : ByteArray} {k : Nat} (h : FoldInv s t k) (h1 : k = s.size) (h2 : s.size = t.size) : true = fld (tx s) (tx t) := by
  have e := h.ok
  rw [List.take_of_length_le (by rw [tx_length]; omega), List.take_of_length_le (by rw [tx_length]; omega)] at e
  unfold fld
  rw [e]; simp
theorem fold_len {s t : ByteArray} (h : ¬ s.size = t.size) : false = fld (tx s) (tx t) := by
  symm
  unfold fld
  rw [beq_eq_false_iff_ne]
  intro he
  have := congrArg List.length he
  rw [List.length_map, tx_length, tx_length] at this
  exact h this
theorem lc_up {x : Nat} (h1 : (65 : Int) ≤ (x : Int)) (h2 : (x : Int) ≤ 90) : lc x = x + 32 := by unfold lc; rw [if_pos (by omega)]
theorem lc_lo {x : Nat} (h1 : ¬ ((65 : Int) ≤ (x : Int) ∧ (x : Int) ≤ 90)) : lc x = x := by unfold lc; rw [if_neg (by omega)]
set_option maxHeartbeats 1000000 in
theorem fold_any (s t : ByteArray) (w : World) (hs : s.size ≤ 1000) (ht : t.size ≤ 1000) :
    Calls Tryz.prog 62 #[.string s, .string t] w fun e w' => e = .returned (.bool (fld (tx s) (tx t))) ∧ w' = w := by
  go_enter Tryz.func62, Tryz.ntmps62
  by_cases hl : s.size = t.size
  · have hlb : ((s.size : Int) != (t.size : Int)) = false := by simp [hl]
    go_wp2_with fail
    go_loop [5, 6] (fun v5 v6 => ∃ k : Nat, v5 = .int .i64 k ∧ k ≤ s.size ∧ FoldInv s t k) (fun v _ => s.size - (intOf v).toNat)
    case atStart => exact ⟨0, rfl, Nat.zero_le _, ⟨by simp⟩⟩
    case round =>
      obtain ⟨k, rfl, hk, HI⟩ := hrel
      by_cases hlt : k < s.size
      · have hlt2 : k < t.size := by omega
        have hx := bt_get s k hlt
        have hy := bt_get t k hlt2
        have HX := Hd.mk hx
        have HY := Hd.mk hy
        have hx256 := UInt8.toNat_lt s[k]
        clear hx hy
        by_cases h1 : (65 : Int) ≤ (s[k].toNat : Int)
        · by_cases h2 : (s[k].toNat : Int) ≤ 90
          · by_cases he : lc s[k].toNat = t[k].toNat
            · have hb : ((s[k].toNat : Int) + 32 != (t[k].toNat : Int)) = false := by rw [lc_up h1 h2] at he; simp; omega
              go_wp2
              go_round
              case rel => exact ⟨k + 1, by go_num, by omega, HI.next hlt hlt2 HX.out HY.out he⟩
              case measure => simp [intOf]; omega
            · have hb : ((s[k].toNat : Int) + 32 != (t[k].toNat : Int)) = true := by rw [lc_up h1 h2] at he; simp; omega
              go_wp2
              go_ret
              exact ⟨ret_b (fold_ne hlt hlt2 HX.out HY.out he), rfl⟩
          · by_cases he : lc s[k].toNat = t[k].toNat
            · have hb : ((s[k].toNat : Int) != (t[k].toNat : Int)) = false := by rw [lc_lo (by omega)] at he; simp; omega
              go_wp2
              go_round
              case rel => exact ⟨k + 1, by go_num, by omega, HI.next hlt hlt2 HX.out HY.out he⟩
              case measure => simp [intOf]; omega
            · have hb : ((s[k].toNat : Int) != (t[k].toNat : Int)) = true := by rw [lc_lo (by omega)] at he; simp; omega
              go_wp2
              go_ret
              exact ⟨ret_b (fold_ne hlt hlt2 HX.out HY.out he), rfl⟩
        · by_cases he : lc s[k].toNat = t[k].toNat
          · have hb : ((s[k].toNat : Int) != (t[k].toNat : Int)) = false := by rw [lc_lo (by omega)] at he; simp; omega
            go_wp2
            go_round
            case rel => exact ⟨k + 1, by go_num, by omega, HI.next hlt hlt2 HX.out HY.out he⟩
            case measure => simp [intOf]; omega
          · have hb : ((s[k].toNat : Int) != (t[k].toNat : Int)) = true := by rw [lc_lo (by omega)] at he; simp; omega
            go_wp2
            go_ret
            exact ⟨ret_b (fold_ne hlt hlt2 HX.out HY.out he), rfl⟩
      · go_wp2
        go_ret
        exact ⟨ret_b (HI.done (by omega) hl), rfl⟩
  · have hlb : ((s.size : Int) != (t.size : Int)) = true := by simp; omega
    go_wp2
    go_ret
    exact ⟨ret_b (fold_len hl), rfl⟩
theorem float_any (n : Nat) (w : World) : Calls Tryz.prog 66 #[.agg #[.int .i64 52, .int .i64 11, .int .i64 (-1023)], .int .u64 (n : Int)] w fun e w' => e = .returned (.float .f64 n) ∧ Below w.heap.size w w' := by
  have hd := frombits_run
  go_enter Tryz.func66, Tryz.ntmps66
  go_wp2
  go_ret
  exact ⟨rfl, (Below.refl _ _).alloc (Nat.le_refl _) _⟩
theorem nan_any (w : World) : Calls Tryz.prog 64 #[] w fun e w' => e = .returned (.float .f64 9221120237041090561) ∧ w' = w := by
  have hd := frombits_run
  go_enter Tryz.func64, Tryz.ntmps64
  go_wp2
  go_ret
  exact ⟨rfl, rfl⟩

end Go.Proofs.YtknjgopapbemcaaGreatDoor
/- Walk of lightstrconv's underscoreOK. -/
namespace Go.Proofs.YtknjgopapbemcaaGreatDoor
open Go.RowKit
set_option linter.unusedVariables false
set_option linter.unusedSimpArgs false
theorem nil_of0 {s : ByteArray} (h : s.size = 0) : s.toList = [] := by
  rw [ByteArray.toList_eq]; exact List.eq_nil_of_length_eq_zero (by rw [Array.length_toList]; exact h)
theorem not_nil_of {s : ByteArray} (h : 0 < s.size) : s.toList.isEmpty = false := by
  rw [ByteArray.toList_eq, List.isEmpty_eq_false_iff]; intro e
  have e2 : s.data.toList.length = 0 := by rw [e]; rfl
  rw [Array.length_toList] at e2
  have h2 : s.data.size = s.size := rfl
  omega
theorem bt_end {l : List Nat} {k : Nat} (h : l.length ≤ k) : bt l k = 0 := by
  unfold bt; rw [List.getD_eq_getElem?_getD, List.getElem?_eq_none h]; rfl
theorem tx_drop (s : ByteArray) (k : Nat) : tx (s.extract k s.size) = (tx s).drop k := by
  rw [tx_extract, List.take_of_length_le (by rw [tx_length]; exact Nat.le_refl _)]
theorem size_drop (s : ByteArray) (k : Nat) : (s.extract k s.size).size = s.size - k := by
  rw [ByteArray.size_extract, Nat.min_self]

def uD (hex : Bool) (c : Nat) : Bool := decide ((48 ≤ c ∧ c ≤ 57) ∨ (hex = true ∧ 97 ≤ lw c ∧ lw c ≤ 102))
theorem uD_f {hex : Bool} {c : Nat} (h : ¬ ((48 ≤ c ∧ c ≤ 57) ∨ (hex = true ∧ 97 ≤ lw c ∧ lw c ≤ 102))) : uD hex c = false := decide_eq_false h
theorem uGo_dig {hex : Bool} {c last : Nat} {l : List Nat} (h : uD hex c = true) : uGo hex last (c :: l) = uGo hex 48 l := by
  unfold uD at h; rw [uGo, if_pos (by simpa using h)]
theorem uGo_und {hex : Bool} {c last : Nat} {l : List Nat} (h : uD hex c = false) (hc : c = 95) (hl : last = 48) : uGo hex last (c :: l) = uGo hex 95 l := by
  unfold uD at h; rw [uGo, if_neg (by simpa using h), if_pos hc, if_pos hl]
theorem uGo_no {hex : Bool} {c last : Nat} {l : List Nat} (h : uD hex c = false) (hc : (c = 95 ∧ ¬ last = 48) ∨ (¬ c = 95 ∧ last = 95)) : uGo hex last (c :: l) = false := by
  unfold uD at h; rw [uGo, if_neg (by simpa using h)]
  rcases hc with ⟨h1, h2⟩ | ⟨h1, h2⟩
  · rw [if_pos h1, if_neg h2]
  · rw [if_neg h1, if_pos h2]
theorem uGo_oth {hex : Bool} {c last : Nat} {l : List Nat} (h : uD hex c = false) (hc : ¬ c = 95) (hl : ¬ last = 95) : uGo hex last (c :: l) = uGo hex 33 l := by
  unfold uD at h; rw [uGo, if_neg (by simpa using h), if_neg hc, if_neg hl]
set_option maxHeartbeats 1000000 in
theorem uok_any (s : ByteArray) (w : World) (hs : s.size ≤ 1000) :
    Calls Tryz.prog 86 #[.string s] w fun e w' => e = .returned (.bool (uOK (tx s))) ∧ w' = w := by
  obtain ⟨R, hR⟩ : ∃ R, R = uOK (tx s) := ⟨_, rfl⟩
  rw [← hR]
  go_enter Tryz.func86, Tryz.ntmps86
  go_upto_region 1 with (fail)
  go_cut [18] from 7 to 18 (fun v18 wc => v18 = .bool (hasSgn (tx s)) ∧ w = wc)
  case first =>
    rcases Nat.eq_zero_or_pos s.size with h0 | h0
    · have hz := nil_of0 h0
      have hr : hasSgn (tx s) = false := by
        unfold hasSgn; rw [bt_end (by rw [tx_length]; omega)]; rfl
      go_wp2
      go_meet
      exact ⟨by rw [hr], rfl⟩
    · have hz := not_nil_of h0
      have hb := bt_get s 0 h0
      have hr : hasSgn (tx s) = decide (s[0].toNat = 43 ∨ s[0].toNat = 45) := by
        unfold hasSgn; rw [← hb]
      clear hb
      have HR := Hd.mk hr
      clear hr
      by_cases h1 : s[0].toNat = 45
      · have hb : ((s[0].toNat : Int) == 45) = true := by simp; omega
        go_wp2
        go_meet
        exact ⟨by rw [HR.out, h1]; rfl, rfl⟩
      · have hb : ((s[0].toNat : Int) == 45) = false := by simp; omega
        by_cases h2 : s[0].toNat = 43
        · have hb2 : ((s[0].toNat : Int) == 43) = true := by simp; omega
          go_wp2
          go_meet
          exact ⟨by rw [HR.out, h2]; rfl, rfl⟩
        · have hb2 : ((s[0].toNat : Int) == 43) = false := by simp; omega
          go_wp2
          go_meet
          exact ⟨by rw [HR.out, decide_eq_false (by omega)], rfl⟩
  case rest =>
    obtain ⟨rfl, rfl⟩ := hcut
    go_upto_if 18 with (fail)
    go_cut [0] from 18 to 20 (fun v0 wc => (∃ t : ByteArray, v0 = .string t ∧ tx t = noSgn (tx s) ∧ t.size ≤ 1000) ∧ w = wc)
    case first =>
      generalize hg : hasSgn (tx s) = b
      cases b
      case true =>
        have h0 : 1 ≤ s.size := by
          rcases Nat.eq_zero_or_pos s.size with h0 | h0
          · unfold hasSgn at hg; rw [bt_end (by rw [tx_length]; omega)] at hg; simp at hg
          · exact h0
        go_wp2
        go_meet
        exact ⟨⟨_, rfl, by rw [tx_drop]; unfold noSgn; rw [if_pos hg], by rw [size_drop]; omega⟩, rfl⟩
      case false =>
        go_wp2
        go_meet
        exact ⟨⟨_, rfl, by unfold noSgn; rw [if_neg (by rw [hg]; simp)], hs⟩, rfl⟩
    case rest =>
      obtain ⟨⟨t, rfl, ht, hts⟩, rfl⟩ := hcut
      go_upto_region 4 with (fail)
      go_cut [46] from 21 to 46 (fun v46 wc => v46 = .bool (uPre (tx t)) ∧ w = wc)
      case first =>
        by_cases h2 : 2 ≤ t.size
        · have hb0 := bt_get t 0 (by omega)
          have hb1 := bt_get t 1 (by omega)
          have HP : Hd (uPre (tx t) = decide (t[0].toNat = 48 ∧ (lw t[1].toNat = 98 ∨ lw t[1].toNat = 111 ∨ lw t[1].toNat = 120))) := by
            refine ⟨?_⟩
            unfold uPre
            rw [← hb0, ← hb1, tx_length]
            simp [h2]
          clear hb0 hb1
          have h256 := UInt8.toNat_lt t[1]
          by_cases h3 : t[0].toNat = 48
          · have hx0 : ((t[0].toNat : Int) == 48) = true := by simp; omega
            by_cases h4 : lw t[1].toNat = 98
            · have hx1 : ((lw t[1].toNat : Int) == 98) = true := by simp; omega
              go_wp2_with (first | (refine (lower_any _ _ h256).mono ?_; rintro e' w' ⟨rfl, rfl⟩) | fail)
              go_meet
              exact ⟨by rw [HP.out, decide_eq_true (by omega)], rfl⟩
            · have hx1 : ((lw t[1].toNat : Int) == 98) = false := by simp; omega
              by_cases h5 : lw t[1].toNat = 111
              · have hx2 : ((lw t[1].toNat : Int) == 111) = true := by simp; omega
                go_wp2_with (first | (refine (lower_any _ _ h256).mono ?_; rintro e' w' ⟨rfl, rfl⟩) | fail)
                go_meet
                exact ⟨by rw [HP.out, decide_eq_true (by omega)], rfl⟩
              · have hx2 : ((lw t[1].toNat : Int) == 111) = false := by simp; omega
                by_cases h6 : lw t[1].toNat = 120
                · have hx3 : ((lw t[1].toNat : Int) == 120) = true := by simp; omega
                  go_wp2_with (first | (refine (lower_any _ _ h256).mono ?_; rintro e' w' ⟨rfl, rfl⟩) | fail)
                  go_meet
                  exact ⟨by rw [HP.out, decide_eq_true (by omega)], rfl⟩
                · have hx3 : ((lw t[1].toNat : Int) == 120) = false := by simp; omega
                  go_wp2_with (first | (refine (lower_any _ _ h256).mono ?_; rintro e' w' ⟨rfl, rfl⟩) | fail)
                  go_meet
                  exact ⟨by rw [HP.out, decide_eq_false (by omega)], rfl⟩
          · have hx0 : ((t[0].toNat : Int) == 48) = false := by simp; omega
            go_wp2
            go_meet
            exact ⟨by rw [HP.out, decide_eq_false (by omega)], rfl⟩
        · have hr : uPre (tx t) = false := by unfold uPre; rw [tx_length]; simp; omega
          go_wp2
          go_meet
          exact ⟨by rw [hr], rfl⟩
      case rest =>
        obtain ⟨rfl, rfl⟩ := hcut
        go_upto_if 46 with (fail)
        go_cut [0, 3, 4] from 46 to 52 (fun v0 v3 v4 wc => (∃ (r : ByteArray) (last : Nat) (hex : Bool), v0 = .string r ∧ v3 = .int .u8 last ∧ v4 = .bool hex ∧ R = uGo hex last (tx r) ∧ r.size ≤ 1000 ∧ (last = 48 ∨ last = 94)) ∧ w = wc)
        case first =>
          generalize hp : uPre (tx t) = b
          cases b
          case true =>
            have h2 : 2 ≤ t.size := by unfold uPre at hp; rw [tx_length] at hp; simp at hp; omega
            have hb1 := bt_get t 1 (by omega)
            have h256 := UInt8.toNat_lt t[1]
            have HE : Hd (R = uGo (decide (lw t[1].toNat = 120)) 48 (tx (t.extract 2 t.size))) := by
              refine ⟨?_⟩
              rw [hR]; unfold uOK
              rw [← ht, if_pos hp, ← hb1, tx_drop]
            clear hb1
            by_cases h4 : lw t[1].toNat = 120
            · have hx : ((lw t[1].toNat : Int) == 120) = true := by simp; omega
              go_wp2_with (first | (refine (lower_any _ _ h256).mono ?_; rintro e' w' ⟨rfl, rfl⟩) | fail)
              go_meet
              exact ⟨⟨_, 48, true, rfl, rfl, rfl, by rw [HE.out, decide_eq_true h4], by rw [size_drop]; omega, .inl rfl⟩, rfl⟩
            · have hx : ((lw t[1].toNat : Int) == 120) = false := by simp; omega
              go_wp2_with (first | (refine (lower_any _ _ h256).mono ?_; rintro e' w' ⟨rfl, rfl⟩) | fail)
              go_meet
              exact ⟨⟨_, 48, false, rfl, rfl, rfl, by rw [HE.out, decide_eq_false h4], by rw [size_drop]; omega, .inl rfl⟩, rfl⟩
          case false =>
            have HE : Hd (R = uGo false 94 (tx t)) := by
              refine ⟨?_⟩
              rw [hR]; unfold uOK
              rw [← ht, if_neg (by rw [hp]; simp)]
            go_wp2
            go_meet
            exact ⟨⟨_, 94, false, rfl, rfl, rfl, HE.out, hts, .inr rfl⟩, rfl⟩
        case rest =>
          obtain ⟨⟨r, last, hex, rfl, rfl, rfl, hE, hrs, hlast⟩, rfl⟩ := hcut
          clear hR ht hts hs
          have HE := Hd.mk hE
          clear hE
          go_wp2_with fail
          go_loop [3, 5, 6] (fun v3 v5 v6 => ∃ (k : Nat) (last : Nat), v3 = .int .u8 last ∧ v5 = .int .i64 k ∧ k ≤ r.size ∧ Hd (R = uGo hex last ((tx r).drop k)) ∧ (last = 48 ∨ last = 94 ∨ last = 95 ∨ last = 33)) (fun _ v _ => r.size - (intOf v).toNat)
          case atStart => exact ⟨0, last, rfl, rfl, Nat.zero_le _, HE, by omega⟩
          case round =>
            clear HE hlast
            obtain ⟨k, last, rfl, rfl, hk, HE, hlast⟩ := hrel
            by_cases hlt : k < r.size
            · have hx := bt_get r k hlt
              have h256 := UInt8.toNat_lt r[k]
              have HD : Hd ((tx r).drop k = r[k].toNat :: (tx r).drop (k + 1)) := ⟨by rw [hx]; exact drop_bt (by rw [tx_length]; exact hlt)⟩
              clear hx
              go_upto_region 12 with (fail)
              go_cut [62] from 63 to 81 (fun v62 wc => v62 = .bool (uD hex r[k].toNat) ∧ w = wc)
              case first =>
                by_cases h1 : (48 : Int) ≤ (r[k].toNat : Int) ∧ (r[k].toNat : Int) ≤ 57
                · obtain ⟨h1, h2⟩ := h1
                  go_wp2
                  go_meet
                  exact ⟨by unfold uD; rw [decide_eq_true (by omega)], rfl⟩
                · cases hex
                  case false =>
                    by_cases h2 : (48 : Int) ≤ (r[k].toNat : Int)
                    · have h3 : ¬ (r[k].toNat : Int) ≤ 57 := by omega
                      go_wp2
                      go_meet
                      exact ⟨by rw [uD_f (by rintro (⟨_, _⟩ | ⟨h9, _, _⟩) <;> first | omega | exact Bool.noConfusion h9)], rfl⟩
                    · go_wp2
                      go_meet
                      exact ⟨by rw [uD_f (by rintro (⟨_, _⟩ | ⟨h9, _, _⟩) <;> first | omega | exact Bool.noConfusion h9)], rfl⟩
                  case true =>
                    by_cases h4 : (97 : Int) ≤ (lw r[k].toNat : Int)
                    · by_cases h5 : (lw r[k].toNat : Int) ≤ 102
                      · by_cases h2 : (48 : Int) ≤ (r[k].toNat : Int)
                        · have h3 : ¬ (r[k].toNat : Int) ≤ 57 := by omega
                          go_wp2_with (first | (refine (lower_any _ _ h256).mono ?_; rintro e' w' ⟨rfl, rfl⟩) | fail)
                          go_meet
                          exact ⟨by unfold uD; rw [decide_eq_true (by simp; omega)], rfl⟩
                        · go_wp2_with (first | (refine (lower_any _ _ h256).mono ?_; rintro e' w' ⟨rfl, rfl⟩) | fail)
                          go_meet
                          exact ⟨by unfold uD; rw [decide_eq_true (by simp; omega)], rfl⟩
                      · by_cases h2 : (48 : Int) ≤ (r[k].toNat : Int)
                        · have h3 : ¬ (r[k].toNat : Int) ≤ 57 := by omega
                          go_wp2_with (first | (refine (lower_any _ _ h256).mono ?_; rintro e' w' ⟨rfl, rfl⟩) | fail)
                          go_meet
                          exact ⟨by rw [uD_f (by rintro (⟨_, _⟩ | ⟨h9, _, _⟩) <;> first | omega | exact Bool.noConfusion h9)]; exact congrArg Value.bool (decide_eq_false (by omega)), rfl⟩
                        · go_wp2_with (first | (refine (lower_any _ _ h256).mono ?_; rintro e' w' ⟨rfl, rfl⟩) | fail)
                          go_meet
                          exact ⟨by rw [uD_f (by rintro (⟨_, _⟩ | ⟨h9, _, _⟩) <;> first | omega | exact Bool.noConfusion h9)]; exact congrArg Value.bool (decide_eq_false (by omega)), rfl⟩
                    · by_cases h2 : (48 : Int) ≤ (r[k].toNat : Int)
                      · have h3 : ¬ (r[k].toNat : Int) ≤ 57 := by omega
                        go_wp2_with (first | (refine (lower_any _ _ h256).mono ?_; rintro e' w' ⟨rfl, rfl⟩) | fail)
                        go_meet
                        exact ⟨by rw [uD_f (by rintro (⟨_, _⟩ | ⟨h9, _, _⟩) <;> first | omega | exact Bool.noConfusion h9)], rfl⟩
                      · go_wp2_with (first | (refine (lower_any _ _ h256).mono ?_; rintro e' w' ⟨rfl, rfl⟩) | fail)
                        go_meet
                        exact ⟨by rw [uD_f (by rintro (⟨_, _⟩ | ⟨h9, _, _⟩) <;> first | omega | exact Bool.noConfusion h9)], rfl⟩
              case rest =>
                obtain ⟨rfl, rfl⟩ := hcut
                generalize hu : uD hex r[k].toNat = b
                cases b
                case true =>
                  go_wp2
                  go_round
                  case rel => exact ⟨k + 1, 48, rfl, by go_num, by omega, ⟨by rw [HE.out, HD.out, uGo_dig hu]⟩, by omega⟩
                  case measure => simp [intOf]; omega
                case false =>
                  by_cases h95 : r[k].toNat = 95
                  · have hb : ((r[k].toNat : Int) == 95) = true := by simp; omega
                    have hb2 : ((r[k].toNat : Int) != 95) = false := by simp; omega
                    by_cases h48 : last = 48
                    · have hb3 : ((last : Int) != 48) = false := by simp; omega
                      go_wp2
                      go_round
                      case rel => exact ⟨k + 1, 95, rfl, by go_num, by omega, ⟨by rw [HE.out, HD.out, uGo_und hu h95 h48]⟩, by omega⟩
                      case measure => simp [intOf]; omega
                    · have hb3 : ((last : Int) != 48) = true := by simp; omega
                      go_wp2
                      go_ret
                      exact ⟨ret_b (by rw [HE.out, HD.out, uGo_no hu (.inl ⟨h95, h48⟩)]), rfl⟩
                  · have hb : ((r[k].toNat : Int) == 95) = false := by simp; omega
                    have hb2 : ((r[k].toNat : Int) != 95) = true := by simp; omega
                    by_cases hl95 : last = 95
                    · have hb3 : ((last : Int) == 95) = true := by simp; omega
                      go_wp2
                      go_ret
                      exact ⟨ret_b (by rw [HE.out, HD.out, uGo_no hu (.inr ⟨h95, hl95⟩)]), rfl⟩
                    · have hb3 : ((last : Int) == 95) = false := by simp; omega
                      go_wp2
                      go_round
                      case rel => exact ⟨k + 1, 33, rfl, by go_num, by omega, ⟨by rw [HE.out, HD.out, uGo_oth hu h95 hl95]⟩, by omega⟩
                      case measure => simp [intOf]; omega
            · go_wp2
              go_ret
              refine ⟨ret_b ?_, rfl⟩
              rw [HE.out, List.drop_of_length_le (by rw [tx_length]; omega)]
              rcases hlast with rfl | rfl | rfl | rfl <;> rfl
end Go.Proofs.YtknjgopapbemcaaGreatDoor
