/- Gh: joined by merge.py for the claim. -/
import Derived.Test.YtknjgopapbemcaaGreatDoorXGg
/- Walks of internal/strconv's commonPrefixLenIgnoreCase, inf, nan, special. -/
namespace Go.Proofs.YtknjgopapbemcaaGreatDoor
open Go.RowKit
set_option linter.unusedVariables false
set_option linter.unusedSimpArgs false

/-- How far two texts agree, whatever the case of the first one. -/
structure Cpl (s t : List Nat) (k : Nat) : Prop where
  ls : k ≤ s.length
  lt : k ≤ t.length
  ok : (s.take k).map lc = t.take k
  stop : k = s.length ∨ k = t.length ∨ lc (bt s k) ≠ bt t k
set_option maxHeartbeats 1000000 in
theorem cpl_any (s t : ByteArray) (w : World) (hs : s.size ≤ 1000) (ht : t.size ≤ 1000) :
    Calls Tryz.prog 107 #[.string s, .string t] w fun e w' => (∃ k : Nat, e = .returned (.int .i64 (k : Int)) ∧ Cpl (tx s) (tx t) k) ∧ w = w' := by
  have hL := tx_length s
  have hLt := tx_length t
  have HL := Hd.mk (And.intro hL hLt)
  clear hL hLt
  go_enter Tryz.func107, Tryz.ntmps107
  go_upto_region 2 with (fail)
  obtain ⟨n, hn⟩ : ∃ n : Nat, (n : Int) = min (t.size : Int) (s.size : Int) := ⟨min t.size s.size, by omega⟩
  have hns : n ≤ s.size := by omega
  have hnt : n ≤ t.size := by omega
  have hne : n = s.size ∨ n = t.size := by omega
  rw [← hn]
  have HNE := Hd.mk hne
  clear hn hne
  go_wp2_with fail
  go_loop [6, 7] (fun v6 _ => ∃ k : Nat, v6 = .int .i64 k ∧ k ≤ n ∧ FoldInv s t k) (fun v _ => n - (intOf v).toNat)
  case atStart => exact ⟨0, rfl, Nat.zero_le _, ⟨by simp⟩⟩
  case round =>
    obtain ⟨k, rfl, hk, HI⟩ := hrel
    by_cases hlt0 : k < n
    · have hlt : k < s.size := by omega
      have hlt2 : k < t.size := by omega
      have hx := bt_get s k hlt
      have hy := bt_get t k hlt2
      have HX := Hd.mk hx
      have HY := Hd.mk hy
      have hx256 := UInt8.toNat_lt s[k]
      clear hx hy
      have hdone : Hd (lc s[k].toNat ≠ t[k].toNat → Cpl (tx s) (tx t) k) := ⟨fun h => ⟨by rw [HL.out.1]; omega, by rw [HL.out.2]; omega, HI.ok, .inr (.inr (by rw [← HX.out, ← HY.out]; exact h))⟩⟩
      by_cases h1 : (65 : Int) ≤ (s[k].toNat : Int)
      · by_cases h2 : (s[k].toNat : Int) ≤ 90
        · by_cases he : lc s[k].toNat = t[k].toNat
          · have hb : ((s[k].toNat : Int) + 32 != (t[k].toNat : Int)) = false := by rw [lc_up h1 h2] at he; simp; omega
            go_wp2
            go_round
            case rel => exact ⟨k + 1, by go_num, by omega, HI.next hlt hlt2 HX.out HY.out he⟩
            case measure => simp [intOf]; omega
          · have hb : ((s[k].toNat : Int) + 32 != (t[k].toNat : Int)) = true := by rw [lc_up h1 h2] at he; simp; omega
            go_wp2
            go_ret
            exact ⟨⟨k, rfl, hdone.out he⟩, rfl⟩
        · by_cases he : lc s[k].toNat = t[k].toNat
          · have hb : ((s[k].toNat : Int) != (t[k].toNat : Int)) = false := by rw [lc_lo (by omega)] at he; simp; omega
            go_wp2
            go_round
            case rel => exact ⟨k + 1, by go_num, by omega, HI.next hlt hlt2 HX.out HY.out he⟩
            case measure => simp [intOf]; omega
          · have hb : ((s[k].toNat : Int) != (t[k].toNat : Int)) = true := by rw [lc_lo (by omega)] at he; simp; omega
            go_wp2
            go_ret
            exact ⟨⟨k, rfl, hdone.out he⟩, rfl⟩
      · by_cases he : lc s[k].toNat = t[k].toNat
        · have hb : ((s[k].toNat : Int) != (t[k].toNat : Int)) = false := by rw [lc_lo (by omega)] at he; simp; omega
          go_wp2
          go_round
          case rel => exact ⟨k + 1, by go_num, by omega, HI.next hlt hlt2 HX.out HY.out he⟩
          case measure => simp [intOf]; omega
        · have hb : ((s[k].toNat : Int) != (t[k].toNat : Int)) = true := by rw [lc_lo (by omega)] at he; simp; omega
          go_wp2
          go_ret
          exact ⟨⟨k, rfl, hdone.out he⟩, rfl⟩
    · obtain rfl : k = n := by omega
      have hC : Hd (Cpl (tx s) (tx t) k) := ⟨⟨by rw [HL.out.1]; omega, by rw [HL.out.2]; omega, HI.ok, by rw [HL.out.1, HL.out.2]; have := HNE.out; omega⟩⟩
      go_wp2
      go_ret
      exact ⟨⟨k, rfl, hC.out⟩, rfl⟩

theorem cpl_inf (s : ByteArray) (w : World) (hs : s.size ≤ 1000) : Calls Tryz.prog 107 #[.string s, .string ⟨#[105, 110, 102, 105, 110, 105, 116, 121]⟩] w fun e w' => (∃ k : Nat, e = .returned (.int .i64 (k : Int)) ∧ Cpl (tx s) wInfinity k) ∧ w = w' := cpl_any s _ w hs (by decide)
theorem cpl_nan (s : ByteArray) (w : World) (hs : s.size ≤ 1000) : Calls Tryz.prog 107 #[.string s, .string ⟨#[110, 97, 110]⟩] w fun e w' => (∃ k : Nat, e = .returned (.int .i64 (k : Int)) ∧ Cpl (tx s) wNan k) ∧ w = w' := cpl_any s _ w hs (by decide)
theorem inf_any (neg : Bool) (w : World) : Calls Tryz.prog 108 #[.int .i64 (if neg then -1 else 1)] w fun e w' => e = .returned (.float .f64 (sgnB neg + infR)) ∧ w = w' := by
  have hfb := fb2_run
  cases neg <;> go_enter Tryz.func108, Tryz.ntmps108 <;> go_wp2 <;> go_ret <;> exact ⟨rfl, rfl⟩
theorem inf_p (w : World) : Calls Tryz.prog 108 #[.int .i64 1] w fun e w' => e = .returned (.float .f64 (sgnB false + infR)) ∧ w = w' := inf_any false w
theorem inf_n (w : World) : Calls Tryz.prog 108 #[.int .i64 (-1)] w fun e w' => e = .returned (.float .f64 (sgnB true + infR)) ∧ w = w' := inf_any true w
theorem snan_any (w : World) : Calls Tryz.prog 109 #[] w fun e w' => e = .returned (.float .f64 9221120237041090561) ∧ w = w' := by
  have hfb := fb2_run
  go_enter Tryz.func109, Tryz.ntmps109
  go_wp2
  go_ret
  exact ⟨rfl, rfl⟩

theorem fld_bt {l wd : List Nat} (h : fld l wd = true) (i : Nat) (hi : i < l.length) : lc (bt l i) = bt wd i := by
  unfold fld at h
  have e : l.map lc = wd := by simpa using h
  rw [← e]
  unfold bt
  rw [List.getD_eq_getElem?_getD, List.getD_eq_getElem?_getD, List.getElem?_map, List.getElem?_eq_getElem hi]
  rfl
theorem fld_length {l wd : List Nat} (h : fld l wd = true) : l.length = wd.length := by
  unfold fld at h
  have e : l.map lc = wd := by simpa using h
  rw [← e, List.length_map]
theorem fld_no {l wd : List Nat} (h : l.length ≠ wd.length) : fld l wd = false := by
  cases hf : fld l wd
  · rfl
  · exact absurd (fld_length hf) h
theorem fld_no0 {l : List Nat} {a : Nat} {wd : List Nat} (h : lc (bt l 0) ≠ a) : fld l (a :: wd) = false := by
  cases hf : fld l (a :: wd)
  · rfl
  · have hl := fld_length hf
    exact absurd (fld_bt hf 0 (by rw [hl]; simp)) h
theorem Cpl.yes {s t : List Nat} {k : Nat} (h : Cpl s t k) (hs : s.length = k) : fld s (t.take k) = true := by
  have := h.ok
  rw [List.take_of_length_le (by omega)] at this
  unfold fld; rw [this]; simp
theorem Cpl.no {s t wd : List Nat} {k : Nat} (h : Cpl s t k) (hk : k < wd.length) (hp : bt wd k = bt t k) (ht : k < t.length) : fld s wd = false := by
  cases hf : fld s wd
  · rfl
  · exfalso
    have hl := fld_length hf
    rcases h.stop with h1 | h1 | h1
    · omega
    · omega
    · exact h1 (by rw [fld_bt hf k (by omega), hp])
theorem body_none {l : List Nat} {c : Nat} (h : bt l 0 = c) (hc : 57 < c) (h95 : c ≠ 95) : body false l = none := by
  have hd : dval false c = none := by unfold dval; rw [if_neg (by omega), if_neg (by simp)]
  have hs : scan false st0 l = (st0, l) := by
    cases l with
    | nil => rfl
    | cons a r =>
      have ha : a = c := h
      subst ha
      have : stp false st0 a = none := by unfold stp; rw [if_neg h95, if_neg (by omega), hd]
      rw [scan_none this]
  exact body_nodig hs rfl
theorem whole_letter {l : List Nat} {c : Nat} (h : bt (noSgn l) 0 = c) (hc : 57 < c) (h95 : c ≠ 95) : whole l = none := by
  have hx : isHex (noSgn l) = false := by unfold isHex; rw [h, decide_eq_false (by omega)]
  unfold whole uns
  rw [hx]
  simp only [Bool.false_eq_true, if_false]
  rw [body_none h hc h95]
theorem pf_letter {l : List Nat} {c : Nat} (hn : fNan l = false) (h1 : fInf (noSgn l) = false) (h2 : fInfy (noSgn l) = false) (h : bt (noSgn l) 0 = c) (hc : 57 < c) (h95 : c ≠ 95) : pf l = none := by
  rw [pf_whole hn h1 h2, whole_letter h hc h95]

/-- What special answers. -/
def SpOut (l : List Nat) (e : Ending) : Prop :=
  (∃ x n, e = .returned (.tuple #[x, n, .bool false]) ∧ fNan l = false ∧ fInf (noSgn l) = false ∧ fInfy (noSgn l) = false) ∨
  (∃ (x n : Nat), e = .returned (.tuple #[.float .f64 x, .int .i64 (n : Int), .bool true]) ∧ ((n = l.length ∧ pf l = some x) ∨ (n ≠ l.length ∧ pf l = none)))
theorem cpl_first {s t : List Nat} {k : Nat} (h : Cpl s t k) (hk : 1 ≤ k) : lc (bt s 0) = bt t 0 := by
  have h1 := h.ls
  have h2 := h.lt
  have h3 := h.ok
  have e1 : bt ((s.take k).map lc) 0 = lc (bt s 0) := by
    unfold bt
    rw [List.getD_eq_getElem?_getD, List.getD_eq_getElem?_getD, List.getElem?_map, List.getElem?_take, if_pos (by omega), List.getElem?_eq_getElem (by omega)]
    rfl
  have e2 : bt (t.take k) 0 = bt t 0 := by
    unfold bt
    rw [List.getD_eq_getElem?_getD, List.getD_eq_getElem?_getD, List.getElem?_take, if_pos (by omega)]
  rw [← e1, h3, e2]
theorem lc_letter {c a : Nat} (h : lc c = a) (ha : 97 ≤ a) (ha2 : a ≤ 122) : 57 < c ∧ c ≠ 95 := by
  unfold lc at h; split at h <;> omega
structure SpF (l : List Nat) (ns k : Nat) : Prop where
  lo : k < 3 → fInf (noSgn l) = false ∧ fInfy (noSgn l) = false
  mid : 3 ≤ k → k < 8 → (ns + 3 = l.length ∧ pf l = some (sgnB (isNeg l) + infR)) ∨ (ns + 3 ≠ l.length ∧ pf l = none)
  hi : k = 8 → (ns + 8 = l.length ∧ pf l = some (sgnB (isNeg l) + infR)) ∨ (ns + 8 ≠ l.length ∧ pf l = none)
theorem sp_fin {l : List Nat} {ns k : Nat} (hC : Cpl (noSgn l) wInfinity k) (hns : l.length = ns + (noSgn l).length) (hnan : fNan l = false) : SpF l ns k := by
  have hls := hC.ls
  have h8 : k ≤ 8 := hC.lt
  have hlet : 1 ≤ k → 57 < bt (noSgn l) 0 ∧ bt (noSgn l) 0 ≠ 95 := fun h => lc_letter (cpl_first hC h) (by decide) (by decide)
  refine ⟨fun h => ?_, fun h1 h2 => ?_, fun h => ?_⟩
  · constructor
    · refine hC.no (wd := wInf) h ?_ (by show k < 8; omega)
      have : k = 0 ∨ k = 1 ∨ k = 2 := by omega
      rcases this with rfl | rfl | rfl <;> rfl
    · exact hC.no (wd := wInfinity) (by show k < 8; omega) rfl (by show k < 8; omega)
  · by_cases hl : (noSgn l).length = 3
    · left
      have hk : k = 3 := by omega
      subst hk
      have hy := hC.yes hl
      exact ⟨by omega, pf_inf hnan (.inl hy)⟩
    · right
      refine ⟨by omega, ?_⟩
      obtain ⟨a, b⟩ := hlet (by omega)
      exact pf_letter hnan (fld_no (by show _ ≠ 3; exact hl)) (hC.no (wd := wInfinity) (by show k < 8; omega) rfl (by show k < 8; omega)) rfl a b
  · subst h
    by_cases hl : (noSgn l).length = 8
    · left
      have hy := hC.yes hl
      exact ⟨by omega, pf_inf hnan (.inr hy)⟩
    · right
      refine ⟨by omega, ?_⟩
      obtain ⟨a, b⟩ := hlet (by omega)
      exact pf_letter hnan (fld_no (by show _ ≠ 3; omega)) (fld_no (by show _ ≠ 8; exact hl)) rfl a b
structure SpN (l : List Nat) (k : Nat) : Prop where
  lo : k < 3 → fNan l = false
  hi : 3 ≤ k → k = 3 ∧ ((3 = l.length ∧ pf l = some 9221120237041090561) ∨ (3 ≠ l.length ∧ pf l = none))
  le : k ≤ 3
theorem sp_nan {l : List Nat} {k : Nat} (hC : Cpl l wNan k) (hsg : noSgn l = l) (h0 : lc (bt l 0) = 110) : SpN l k ∧ fInf (noSgn l) = false ∧ fInfy (noSgn l) = false := by
  have h3 : k ≤ 3 := hC.lt
  have hls := hC.ls
  have f1 : fInf (noSgn l) = false := by rw [hsg]; exact fld_no0 (by rw [h0]; decide)
  have f2 : fInfy (noSgn l) = false := by rw [hsg]; exact fld_no0 (by rw [h0]; decide)
  refine ⟨⟨fun h => hC.no (wd := wNan) h rfl h, fun h => ⟨by omega, ?_⟩, h3⟩, f1, f2⟩
  have hk : k = 3 := by omega
  subst hk
  by_cases hl : l.length = 3
  · exact .inl ⟨hl.symm, pf_nan (hC.yes hl)⟩
  · right
    refine ⟨fun e => hl e.symm, ?_⟩
    obtain ⟨a, b⟩ := lc_letter h0 (by decide) (by decide)
    exact pf_letter (fld_no (by show _ ≠ 3; exact hl)) f1 f2 (by rw [hsg]) a b
theorem sp_other {l : List Nat} (hsg : noSgn l = l) (h1 : lc (bt l 0) ≠ 105) (h2 : lc (bt l 0) ≠ 110) : fNan l = false ∧ fInf (noSgn l) = false ∧ fInfy (noSgn l) = false := by
  rw [hsg]; exact ⟨fld_no0 h2, fld_no0 h1, fld_no0 h1⟩
theorem noSgn_same {l : List Nat} (h1 : bt l 0 ≠ 43) (h2 : bt l 0 ≠ 45) : noSgn l = l := by
  unfold noSgn hasSgn; rw [decide_eq_false (fun h => h.elim h1 h2)]; rfl
theorem noSgn_drop {l : List Nat} (h : bt l 0 = 43 ∨ bt l 0 = 45) : noSgn l = l.drop 1 := by
  unfold noSgn hasSgn; rw [decide_eq_true h]; rfl
set_option maxHeartbeats 2000000 in
set_option maxRecDepth 100000 in
theorem special_any (s : ByteArray) (w : World) (hs : s.size ≤ 1000) : Calls Tryz.prog 90 #[.string s] w fun e w' => SpOut (tx s) e ∧ w = w' := by
  rcases Nat.eq_zero_or_pos s.size with h0 | h0
  · have hb : ((s.size : Int) == 0) = true := beq_iff_eq.2 (by omega)
    have HF : Hd (fNan (tx s) = false ∧ fInf (noSgn (tx s)) = false ∧ fInfy (noSgn (tx s)) = false) := by
      have hz : bt (tx s) 0 = 0 := bt_out (by rw [tx_length]; omega)
      exact ⟨sp_other (noSgn_same (by rw [hz]; decide) (by rw [hz]; decide)) (by rw [hz]; decide) (by rw [hz]; decide)⟩
    go_enter Tryz.func90, Tryz.ntmps90
    go_wp2
    go_ret3
    exact ⟨.inl ⟨_, _, rfl, HF.out⟩, rfl⟩
  · have hb : ((s.size : Int) == 0) = false := beq_eq_false_iff_ne.2 (by omega)
    have hbt := Hd.mk (bt_get s 0 h0)
    have h01 : 1 ≤ s.size := h0
    by_cases hsg : s[0].toNat = 43 ∨ s[0].toNat = 45
    · have hns : noSgn (tx s) = (tx s).drop 1 := noSgn_drop (by rw [← hbt.out]; exact hsg)
      have HNS := Hd.mk hns
      have HNAN : Hd (fNan (tx s) = false) := ⟨fld_no0 (by rw [← hbt.out]; rcases hsg with h | h <;> rw [h] <;> decide)⟩
      have HLEN : Hd ((tx s).length = 1 + (noSgn (tx s)).length) := ⟨by rw [hns, List.length_drop, tx_length]; omega⟩
      have hng : Hd (isNeg (tx s) = decide (s[0].toNat = 45)) := ⟨by unfold isNeg; rw [← hbt.out]⟩
      clear hns
      go_enter Tryz.func90, Tryz.ntmps90
      rcases hsg with hc | hc
      · have hb1 : ((s[0].toNat : Int) == 43) = true := by simp; omega
        have hb2 : ((s[0].toNat : Int) == 45) = false := by simp; omega
        have HNG : Hd (isNeg (tx s) = false) := ⟨by rw [hng.out, hc]; rfl⟩
        go_upto_region 16 with (fail)
        have HTS : Hd ((s.extract 1 s.size).size ≤ 1000) := ⟨by rw [size_drop]; omega⟩
        go_upto_region 17 with (go_at_call 107; ((with_reducible refine (cpl_inf _ _ HTS.out).mono ?_); rintro e w' ⟨⟨k, rfl, hk⟩, rfl⟩))
        have HSF : Hd (SpF (tx s) 1 k) := ⟨sp_fin (by rw [HNS.out]; exact tx_drop s 1 ▸ hk) HLEN.out HNAN.out⟩
        have hk8 : k ≤ 8 := hk.lt
        clear hk
        by_cases hk3 : k < 3
        · have e1 : decide ((3 : Int) < (k : Int)) = false := decide_eq_false (by omega)
          have e2 : ((k : Int) == 3) = false := beq_eq_false_iff_ne.2 (by omega)
          have e3 : ((k : Int) == 8) = false := beq_eq_false_iff_ne.2 (by omega)
          go_wp2
          go_ret3
          exact ⟨.inl ⟨_, _, rfl, HNAN.out, HSF.out.lo hk3⟩, rfl⟩
        · by_cases hk8b : k = 8
          · subst hk8b
            clear hk8 hk3
            go_wp2_with (go_at_call 108; ((with_reducible refine (inf_p _).mono ?_); rintro e w' ⟨rfl, rfl⟩))
            go_ret3
            refine ⟨.inr ⟨_, _, rfl, ?_⟩, rfl⟩
            have := HSF.out.hi rfl
            rw [HNG.out] at this
            exact this
          · by_cases hk33 : k = 3
            · subst hk33
              clear hk8 hk3 hk8b
              go_wp2_with (go_at_call 108; ((with_reducible refine (inf_p _).mono ?_); rintro e w' ⟨rfl, rfl⟩))
              go_ret3
              refine ⟨.inr ⟨_, _, rfl, ?_⟩, rfl⟩
              have := HSF.out.mid (by decide) (by decide)
              rw [HNG.out] at this
              exact this
            · have e1 : decide ((3 : Int) < (k : Int)) = true := decide_eq_true (by omega)
              have e2 : decide ((k : Int) < 8) = true := decide_eq_true (by omega)
              go_wp2_with (go_at_call 108; ((with_reducible refine (inf_p _).mono ?_); rintro e w' ⟨rfl, rfl⟩))
              go_ret3
              refine ⟨.inr ⟨_, 1 + 3, rfl, ?_⟩, rfl⟩
              have := HSF.out.mid (by omega) (by omega)
              rw [HNG.out] at this
              exact this
      · have hb1 : ((s[0].toNat : Int) == 43) = false := by simp; omega
        have hb2 : ((s[0].toNat : Int) == 45) = true := by simp; omega
        have HNG : Hd (isNeg (tx s) = true) := ⟨by rw [hng.out, hc]; rfl⟩
        go_upto_region 16 with (fail)
        have HTS : Hd ((s.extract 1 s.size).size ≤ 1000) := ⟨by rw [size_drop]; omega⟩
        go_upto_region 17 with (go_at_call 107; ((with_reducible refine (cpl_inf _ _ HTS.out).mono ?_); rintro e w' ⟨⟨k, rfl, hk⟩, rfl⟩))
        have HSF : Hd (SpF (tx s) 1 k) := ⟨sp_fin (by rw [HNS.out]; exact tx_drop s 1 ▸ hk) HLEN.out HNAN.out⟩
        have hk8 : k ≤ 8 := hk.lt
        clear hk
        by_cases hk3 : k < 3
        · have e1 : decide ((3 : Int) < (k : Int)) = false := decide_eq_false (by omega)
          have e2 : ((k : Int) == 3) = false := beq_eq_false_iff_ne.2 (by omega)
          have e3 : ((k : Int) == 8) = false := beq_eq_false_iff_ne.2 (by omega)
          go_wp2
          go_ret3
          exact ⟨.inl ⟨_, _, rfl, HNAN.out, HSF.out.lo hk3⟩, rfl⟩
        · by_cases hk8b : k = 8
          · subst hk8b
            clear hk8 hk3
            go_wp2_with (go_at_call 108; ((with_reducible refine (inf_n _).mono ?_); rintro e w' ⟨rfl, rfl⟩))
            go_ret3
            refine ⟨.inr ⟨_, _, rfl, ?_⟩, rfl⟩
            have := HSF.out.hi rfl
            rw [HNG.out] at this
            exact this
          · by_cases hk33 : k = 3
            · subst hk33
              clear hk8 hk3 hk8b
              go_wp2_with (go_at_call 108; ((with_reducible refine (inf_n _).mono ?_); rintro e w' ⟨rfl, rfl⟩))
              go_ret3
              refine ⟨.inr ⟨_, _, rfl, ?_⟩, rfl⟩
              have := HSF.out.mid (by decide) (by decide)
              rw [HNG.out] at this
              exact this
            · have e1 : decide ((3 : Int) < (k : Int)) = true := decide_eq_true (by omega)
              have e2 : decide ((k : Int) < 8) = true := decide_eq_true (by omega)
              go_wp2_with (go_at_call 108; ((with_reducible refine (inf_n _).mono ?_); rintro e w' ⟨rfl, rfl⟩))
              go_ret3
              refine ⟨.inr ⟨_, 1 + 3, rfl, ?_⟩, rfl⟩
              have := HSF.out.mid (by omega) (by omega)
              rw [HNG.out] at this
              exact this
    · have h43 : s[0].toNat ≠ 43 := fun h => hsg (.inl h)
      have h45 : s[0].toNat ≠ 45 := fun h => hsg (.inr h)
      have hb1 : ((s[0].toNat : Int) == 43) = false := beq_eq_false_iff_ne.2 (by omega)
      have hb2 : ((s[0].toNat : Int) == 45) = false := beq_eq_false_iff_ne.2 (by omega)
      have HNS : Hd (noSgn (tx s) = tx s) := ⟨noSgn_same (by rw [← hbt.out]; exact h43) (by rw [← hbt.out]; exact h45)⟩
      have HLEN : Hd ((tx s).length = 0 + (noSgn (tx s)).length) := ⟨by rw [HNS.out]; omega⟩
      have HNG : Hd (isNeg (tx s) = false) := ⟨by unfold isNeg; rw [← hbt.out]; exact decide_eq_false h45⟩
      by_cases hi : s[0].toNat = 105 ∨ s[0].toNat = 73
      · have HNAN : Hd (fNan (tx s) = false) := ⟨fld_no0 (by rw [← hbt.out]; rcases hi with h | h <;> rw [h] <;> decide)⟩
        go_enter Tryz.func90, Tryz.ntmps90
        rcases hi with hc | hc
        · have hb3 : ((s[0].toNat : Int) == 105) = true := beq_iff_eq.2 (by omega)
          go_upto_region 16 with (fail)
          have HTS : Hd (s.size ≤ 1000) := ⟨hs⟩
          go_upto_region 17 with (go_at_call 107; ((with_reducible refine (cpl_inf _ _ HTS.out).mono ?_); rintro e w' ⟨⟨k, rfl, hk⟩, rfl⟩))
          have HSF : Hd (SpF (tx s) 0 k) := ⟨sp_fin (by rw [HNS.out]; exact hk) HLEN.out HNAN.out⟩
          have hk8 : k ≤ 8 := hk.lt
          clear hk
          by_cases hk3 : k < 3
          · have e1 : decide ((3 : Int) < (k : Int)) = false := decide_eq_false (by omega)
            have e2 : ((k : Int) == 3) = false := beq_eq_false_iff_ne.2 (by omega)
            have e3 : ((k : Int) == 8) = false := beq_eq_false_iff_ne.2 (by omega)
            go_wp2
            go_ret3
            exact ⟨.inl ⟨_, _, rfl, HNAN.out, HSF.out.lo hk3⟩, rfl⟩
          · by_cases hk8b : k = 8
            · subst hk8b
              clear hk8 hk3
              go_wp2_with (go_at_call 108; ((with_reducible refine (inf_p _).mono ?_); rintro e w' ⟨rfl, rfl⟩))
              go_ret3
              refine ⟨.inr ⟨_, _, rfl, ?_⟩, rfl⟩
              have := HSF.out.hi rfl
              rw [HNG.out] at this
              exact this
            · by_cases hk33 : k = 3
              · subst hk33
                clear hk8 hk3 hk8b
                go_wp2_with (go_at_call 108; ((with_reducible refine (inf_p _).mono ?_); rintro e w' ⟨rfl, rfl⟩))
                go_ret3
                refine ⟨.inr ⟨_, _, rfl, ?_⟩, rfl⟩
                have := HSF.out.mid (by decide) (by decide)
                rw [HNG.out] at this
                exact this
              · have e1 : decide ((3 : Int) < (k : Int)) = true := decide_eq_true (by omega)
                have e2 : decide ((k : Int) < 8) = true := decide_eq_true (by omega)
                go_wp2_with (go_at_call 108; ((with_reducible refine (inf_p _).mono ?_); rintro e w' ⟨rfl, rfl⟩))
                go_ret3
                refine ⟨.inr ⟨_, 0 + 3, rfl, ?_⟩, rfl⟩
                have := HSF.out.mid (by omega) (by omega)
                rw [HNG.out] at this
                exact this
        · have hb3 : ((s[0].toNat : Int) == 105) = false := beq_eq_false_iff_ne.2 (by omega)
          have hb4 : ((s[0].toNat : Int) == 73) = true := beq_iff_eq.2 (by omega)
          go_upto_region 16 with (fail)
          have HTS : Hd (s.size ≤ 1000) := ⟨hs⟩
          go_upto_region 17 with (go_at_call 107; ((with_reducible refine (cpl_inf _ _ HTS.out).mono ?_); rintro e w' ⟨⟨k, rfl, hk⟩, rfl⟩))
          have HSF : Hd (SpF (tx s) 0 k) := ⟨sp_fin (by rw [HNS.out]; exact hk) HLEN.out HNAN.out⟩
          have hk8 : k ≤ 8 := hk.lt
          clear hk
          by_cases hk3 : k < 3
          · have e1 : decide ((3 : Int) < (k : Int)) = false := decide_eq_false (by omega)
            have e2 : ((k : Int) == 3) = false := beq_eq_false_iff_ne.2 (by omega)
            have e3 : ((k : Int) == 8) = false := beq_eq_false_iff_ne.2 (by omega)
            go_wp2
            go_ret3
            exact ⟨.inl ⟨_, _, rfl, HNAN.out, HSF.out.lo hk3⟩, rfl⟩
          · by_cases hk8b : k = 8
            · subst hk8b
              clear hk8 hk3
              go_wp2_with (go_at_call 108; ((with_reducible refine (inf_p _).mono ?_); rintro e w' ⟨rfl, rfl⟩))
              go_ret3
              refine ⟨.inr ⟨_, _, rfl, ?_⟩, rfl⟩
              have := HSF.out.hi rfl
              rw [HNG.out] at this
              exact this
            · by_cases hk33 : k = 3
              · subst hk33
                clear hk8 hk3 hk8b
                go_wp2_with (go_at_call 108; ((with_reducible refine (inf_p _).mono ?_); rintro e w' ⟨rfl, rfl⟩))
                go_ret3
                refine ⟨.inr ⟨_, _, rfl, ?_⟩, rfl⟩
                have := HSF.out.mid (by decide) (by decide)
                rw [HNG.out] at this
                exact this
              · have e1 : decide ((3 : Int) < (k : Int)) = true := decide_eq_true (by omega)
                have e2 : decide ((k : Int) < 8) = true := decide_eq_true (by omega)
                go_wp2_with (go_at_call 108; ((with_reducible refine (inf_p _).mono ?_); rintro e w' ⟨rfl, rfl⟩))
                go_ret3
                refine ⟨.inr ⟨_, 0 + 3, rfl, ?_⟩, rfl⟩
                have := HSF.out.mid (by omega) (by omega)
                rw [HNG.out] at this
                exact this
      · have hb3 : ((s[0].toNat : Int) == 105) = false := beq_eq_false_iff_ne.2 (by omega)
        have hb4 : ((s[0].toNat : Int) == 73) = false := beq_eq_false_iff_ne.2 (by omega)
        by_cases hn : s[0].toNat = 110 ∨ s[0].toNat = 78
        · have hlc : lc (bt (tx s) 0) = 110 := by rw [← hbt.out]; rcases hn with h | h <;> rw [h] <;> rfl
          have HLC := Hd.mk hlc
          clear hlc
          go_enter Tryz.func90, Tryz.ntmps90
          rcases hn with hc | hc
          · have hb5 : ((s[0].toNat : Int) == 110) = true := beq_iff_eq.2 (by omega)
            go_upto_region 21 with (fail)
            go_upto_if 48 with (go_at_call 107; ((with_reducible refine (cpl_nan _ _ hs).mono ?_); rintro e w' ⟨⟨k, rfl, hk⟩, rfl⟩))
            have HSN := Hd.mk (sp_nan hk HNS.out HLC.out)
            clear hk
            by_cases hk3 : k < 3
            · have e2 : ((k : Int) == 3) = false := beq_eq_false_iff_ne.2 (by omega)
              go_wp2
              go_ret3
              exact ⟨.inl ⟨_, _, rfl, HSN.out.1.lo hk3, HSN.out.2⟩, rfl⟩
            · have HK3 := Hd.mk (HSN.out.1.hi (by omega))
              have e2 : ((k : Int) == 3) = true := beq_iff_eq.2 (by have := HK3.out.1; omega)
              go_wp2_with (go_at_call 109; ((with_reducible refine (snan_any _).mono ?_); rintro e w' ⟨rfl, rfl⟩))
              go_ret3
              exact ⟨.inr ⟨_, 3, rfl, HK3.out.2⟩, rfl⟩
          · have hb5 : ((s[0].toNat : Int) == 110) = false := beq_eq_false_iff_ne.2 (by omega)
            have hb6 : ((s[0].toNat : Int) == 78) = true := beq_iff_eq.2 (by omega)
            go_upto_region 21 with (fail)
            go_upto_if 48 with (go_at_call 107; ((with_reducible refine (cpl_nan _ _ hs).mono ?_); rintro e w' ⟨⟨k, rfl, hk⟩, rfl⟩))
            have HSN := Hd.mk (sp_nan hk HNS.out HLC.out)
            clear hk
            by_cases hk3 : k < 3
            · have e2 : ((k : Int) == 3) = false := beq_eq_false_iff_ne.2 (by omega)
              go_wp2
              go_ret3
              exact ⟨.inl ⟨_, _, rfl, HSN.out.1.lo hk3, HSN.out.2⟩, rfl⟩
            · have HK3 := Hd.mk (HSN.out.1.hi (by omega))
              have e2 : ((k : Int) == 3) = true := beq_iff_eq.2 (by have := HK3.out.1; omega)
              go_wp2_with (go_at_call 109; ((with_reducible refine (snan_any _).mono ?_); rintro e w' ⟨rfl, rfl⟩))
              go_ret3
              exact ⟨.inr ⟨_, 3, rfl, HK3.out.2⟩, rfl⟩
        · have hb5 : ((s[0].toNat : Int) == 110) = false := beq_eq_false_iff_ne.2 (by omega)
          have hb6 : ((s[0].toNat : Int) == 78) = false := beq_eq_false_iff_ne.2 (by omega)
          have HO : Hd (fNan (tx s) = false ∧ fInf (noSgn (tx s)) = false ∧ fInfy (noSgn (tx s)) = false) := ⟨sp_other HNS.out (by rw [← hbt.out]; unfold lc; split <;> omega) (by rw [← hbt.out]; unfold lc; split <;> omega)⟩
          go_enter Tryz.func90, Tryz.ntmps90
          go_wp2
          go_ret3
          exact ⟨.inl ⟨_, _, rfl, HO.out⟩, rfl⟩
end Go.Proofs.YtknjgopapbemcaaGreatDoor
