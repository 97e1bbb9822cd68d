/- Do: joined by merge.py for the claim. -/
import Derived.Test.YtknjgopapbemcaaGreatDoorXDn
import Derived.Test.YtknjgopapbemcaaGreatDoorXGk
/- Walk of internal/strconv's floatBits. -/
namespace Go.Proofs.YtknjgopapbemcaaGreatDoor
open Go.RowKit
set_option linter.unusedVariables false
set_option linter.unusedSimpArgs false
/-- While the decimal is 1 or more. -/
structure FA (K : Nat) (w0 : World) (g : Nat) (neg : Bool) (N M : Nat) (w : World) (e : Int) : Prop where
  ex : ∃ c ds dp tr, Dst K w0 g neg N M w c ds dp e tr ∧ (c : Int) ≤ e ∧ dp ≤ 310 ∧ -(330 + 20 * e) ≤ dp
  e0 : 0 ≤ e
  e1 : e ≤ 1060
  xl : e ≤ 35 ∨ XL N M (e - 60)
/-- While it is less than one half. -/
structure FB (K : Nat) (w0 : World) (g : Nat) (neg : Bool) (N M : Nat) (w : World) (e : Int) : Prop where
  ex : ∃ c ds dp tr, Dst K w0 g neg N M w c ds dp e tr ∧ (c : Int) + e ≤ 2130 ∧ dp ≤ 0 ∧ -90000 ≤ dp
  e0 : -1100 ≤ e
  e1 : e ≤ 1060
  xl : e ≤ 35 ∨ XL N M (e - 60)
theorem FA.toB {K g N M : Nat} {w0 w : World} {neg : Bool} {e : Int} (h : FA K w0 g neg N M w e) : (∃ c ds dp tr, Dst K w0 g neg N M w c ds dp e tr ∧ 0 < dp) ∨ FB K w0 g neg N M w e := by
  obtain ⟨c, ds, dp, tr, h1, h2, h3, h4⟩ := h.ex
  rcases Int.lt_or_le 0 dp with hp | hp
  · exact .inl ⟨c, ds, dp, tr, h1, hp⟩
  · exact .inr ⟨⟨c, ds, dp, tr, h1, by have := h.e1; omega, hp, by have := h.e1; omega⟩, by have := h.e0; omega, h.e1, h.xl⟩
theorem FA.small {K g N M c : Nat} {w0 w : World} {neg tr : Bool} {ds : List Nat} {dp e : Int} (h : Dst K w0 g neg N M w c ds dp e tr) (hM : 0 < M) (hp : 0 < dp) (hN : N < 2 ^ 1030 * M) : e < 1030 := by
  have h1 := ap_XL (z := 0) h.ap (vd_pos _ _) (by rw [Nat.pow_zero, Nat.mul_one]; exact ge_one h.vd (by omega))
  have := XL_lt hM h1 hN
  omega
theorem FA.step {K g N M c k : Nat} {w0 w w' : World} {neg tr tr' : Bool} {ds ds' : List Nat} {dp e dp' : Int} (h : Dst K w0 g neg N M w c ds dp e tr) (h2 : (c : Int) ≤ e) (h3 : dp ≤ 310) (h4 : -(330 + 20 * e) ≤ dp) (he0 : 0 ≤ e) (he : e < 1030) (hp : 0 < dp)
    (hk1 : 1 ≤ k) (hk2 : k ≤ 27) (h' : Dst K w0 g neg N M w' (c + 1) ds' dp' (e + k) tr') (hd1 : dp - 20 ≤ dp') (hd2 : dp' ≤ dp) : FA K w0 g neg N M w' (e + k) := by
  have h1 := ap_XL (z := 0) h.ap (vd_pos _ _) (by rw [Nat.pow_zero, Nat.mul_one]; exact ge_one h.vd (by omega))
  exact ⟨⟨c + 1, ds', dp', tr', h', by omega, by omega, by omega⟩, by omega, by omega, .inr (h1.mono (by omega))⟩
theorem FB.lt {K g N M c k : Nat} {w0 w : World} {neg tr : Bool} {ds : List Nat} {dp e : Int} (h : Dst K w0 g neg N M w c ds dp e tr) (hc : (dp < 0 ∧ 2 ^ k ≤ 10 ^ (-dp).toNat) ∨ (dp = 0 ∧ dg ds 0 < 5 ∧ k = 1)) : vn ds dp * 2 ^ k < vd ds dp := by
  rcases hc with ⟨h1, h2⟩ | ⟨h1, h2, h3⟩
  · have h5 := lt_ten h.vd (-dp).toNat (dp := dp) (by omega)
    exact Nat.lt_of_le_of_lt (Nat.mul_le_mul_left _ h2) h5
  · subst h1 h3
    have := lt_half h.vd h2
    rw [Nat.pow_one]; exact this
theorem FB.big {K g N M c k : Nat} {w0 w : World} {neg tr : Bool} {ds : List Nat} {dp e : Int} (h : Dst K w0 g neg N M w c ds dp e tr) (hK : K = 10 ^ 799) (hM : 0 < M) (hc : c ≤ 5000) (hx : e ≤ 35 ∨ XL N M (e - 60)) : e - k ≤ 35 ∨ vd ds dp ≤ vn ds dp * 2 ^ 100 := by
  rcases hx with hx | hx
  · exact .inl (by omega)
  · exact .inr (Nat.le_trans (ap_big (z := 60) h.ap hK hc hM (by exact hx)) (Nat.mul_le_mul_left _ (two_pow_le (by omega))))
theorem FB.step {K g N M c k : Nat} {w0 w w' : World} {neg tr tr' : Bool} {ds ds' : List Nat} {dp e dp' : Int} (h : Dst K w0 g neg N M w c ds dp e tr) (hK : K = 10 ^ 799) (hM : 0 < M) (h2 : (c : Int) + e ≤ 2130) (he0 : -1100 ≤ e) (he1 : e ≤ 1060) (h4 : -90000 ≤ dp)
    (hx : e ≤ 35 ∨ XL N M (e - 60)) (hX : XL N M (-1100)) (hlt : vn ds dp * 2 ^ k < vd ds dp) (hk1 : 1 ≤ k) (hk2 : k ≤ 27) (h' : Dst K w0 g neg N M w' (c + 1) ds' dp' (e - k) tr')
    (hv : vn ds' dp' * vd ds dp ≤ vn ds dp * 2 ^ k * vd ds' dp') (hd1 : dp ≤ dp') : FB K w0 g neg N M w' (e - k) ∧ e - k < e ∧ -1100 ≤ e - k := by
  have hc5 : c ≤ 5000 := by omega
  have h5 := ap_left h.ap hK hc5 hM (vd_pos _ _) hlt hX
  have hlt' : vn ds' dp' < vd ds' dp' := by
    apply Nat.lt_of_mul_lt_mul_right (a := vd ds dp)
    calc vn ds' dp' * vd ds dp ≤ vn ds dp * 2 ^ k * vd ds' dp' := hv
      _ < vd ds dp * vd ds' dp' := Nat.mul_lt_mul_of_pos_right hlt (vd_pos _ _)
      _ = vd ds' dp' * vd ds dp := Nat.mul_comm _ _
  have hdp : dp' ≤ 0 := not_ge h'.vd hlt'
  refine ⟨⟨⟨c + 1, ds', dp', tr', h', by omega, hdp, ?_⟩, by omega, by omega, ?_⟩, by omega, by omega⟩
  · omega
  · rcases hx with hx | hx
    · exact .inl (by omega)
    · exact .inr (hx.mono (by omega))
/-- Behind the two loops. -/
structure FC (K : Nat) (w0 : World) (g : Nat) (neg : Bool) (N M : Nat) (w : World) (e E : Int) : Prop where
  ex : ∃ c ds dp tr, Dst K w0 g neg N M w c ds dp (E + 1) tr ∧ c ≤ 3300 ∧ dp ≤ 0 ∧ -40 ≤ dp ∧ (E ≤ 0 ∨ vd ds dp ≤ vn ds dp * 2 ^ 100)
  eE : (E = e - 1 ∧ -1021 ≤ e) ∨ (E = -1022 ∧ e < -1021)
theorem ptb_get {i : Nat} (h : i < 9) : 1 ≤ ptb.getD i 0 ∧ ptb.getD i 0 ≤ 26 ∧ (1 ≤ i → 2 ^ (ptb.getD i 0) ≤ 10 ^ i) ∧ (i = 0 → ptb.getD i 0 = 1) := by
  rcases (by omega : i = 0 ∨ i = 1 ∨ i = 2 ∨ i = 3 ∨ i = 4 ∨ i = 5 ∨ i = 6 ∨ i = 7 ∨ i = 8) with h | h | h | h | h | h | h | h | h <;> subst h <;> decide
theorem fb1 : bits .and .u64 0 4503599627370495 = 0 := by kernel_rfl
theorem fb2 : bits .and .i64 2047 2047 = 2047 := by kernel_rfl
theorem fb3 : bits .or .u64 0 9218868437227405312 = 9218868437227405312 := by kernel_rfl
theorem fb4 : bits .or .u64 9218868437227405312 9223372036854775808 = 18442240474082181120 := by kernel_rfl
/-- What floatBits answers. -/
def fbv (neg : Bool) (R : Nat) : Ending := .returned (.tuple #[.int .u64 ((sgnB neg + R : Nat) : Int), .bool (decide (R = infR))])
theorem fb5 : bits .and .u64 4503599627370496 4503599627370495 = 0 := by kernel_rfl
theorem fb6 : bits .and .u64 4503599627370496 4503599627370496 = 4503599627370496 := by kernel_rfl
/-- The sign laid on. -/
theorem or_sgn63 {n : Nat} (h : n < 9223372036854775808) : bits .or .u64 (n : Int) 9223372036854775808 = ((9223372036854775808 + n : Nat) : Int) := by
  have e := u64_or_nat n 9223372036854775808 (by omega) (by omega)
  have e2 := Nat.two_pow_add_eq_or_of_lt (i := 63) (b := n) h 1
  rw [show (2 : Nat) ^ 63 * 1 = 9223372036854775808 from rfl] at e2
  rw [Nat.or_comm, ← e2] at e
  exact e
theorem fbv_fin {neg : Bool} {R X : Nat} {x : Int} (h : R = min X infR) (hX : X < 9218868437227405312) (hx : x = ((sgnB neg + X : Nat) : Int)) : Ending.returned (.tuple #[.int .u64 x, .bool false]) = fbv neg R := by
  unfold fbv
  have e : infR = 9218868437227405312 := rfl
  rw [e, Nat.min_eq_left (by omega)] at h
  rw [hx, h, e, decide_eq_false (by omega)]
theorem sgn_f (X : Nat) : (X : Int) = ((sgnB false + X : Nat) : Int) := by
  show _ = ((0 + X : Nat) : Int); rw [Nat.zero_add]
theorem fbv_inf {neg : Bool} {R : Nat} {x : Int} (h : R = infR) (hx : x = if neg then 18442240474082181120 else 9218868437227405312) : Ending.returned (.tuple #[.int .u64 x, .bool true]) = fbv neg R := by
  unfold fbv
  have e : infR = 9218868437227405312 := rfl
  have e2 : ((sgnB neg + R : Nat) : Int) = x := by
    rw [hx, h, e]; cases neg <;> rfl
  rw [e2, decide_eq_true h]
set_option maxHeartbeats 1000000 in
set_option maxRecDepth 100000 in
theorem fb_any {K g N M : Nat} {w0 w : World} {neg tr : Bool} {ds : List Nat} {dp : Int} (h : Dst K w0 g neg N M w 0 ds dp 0 tr) (hG : Gl w0) (hK : K = 10 ^ 799) (hM : 0 < M) (hg : GapOk N M) (hN : N < 2 ^ 1030 * M) (hX : XL N M (-1100)) (hdp1 : -330 ≤ dp) (hdp2 : dp ≤ 310) :
    Calls Tryz.prog 98 #[.pointer (some ⟨g, 0, none⟩), .pointer (some ⟨11, 0, none⟩)] w fun r w' => r = fbv neg (rung N M) ∧ Below w0.heap.size w0 w' := by
  have hcn := h.nd
  have hcp := h.dpc
  have hpos := h.vd.pos
  have HX := Hd.mk hX
  have HGP := Hd.mk hg
  have HN := Hd.mk hN
  have hnz : ((ds.length : Int) == 0) = false := by simp; intro e; rw [e] at hpos; simp at hpos
  have hb1 : decide ((310 : Int) < dp) = false := decide_eq_false (by omega)
  have hb2 : decide (dp < (-330 : Int)) = false := decide_eq_false (by omega)
  have H0 : Hd (FA K w0 g neg N M w 0) := ⟨⟨⟨0, ds, dp, tr, h, by omega, by omega, by omega⟩, by omega, by omega, .inl (by omega)⟩⟩
  clear hX hg hN h
  go_enter Tryz.func98, Tryz.ntmps98
  go_wp2
  refine wp_scope_inline fun c' hc' => ?_
  have HC' := Hd.mk hc'
  clear hc'
  go_wp2
  clear hcn hcp hnz hb1 hb2 hpos
  go_loopg [6, 8] 1030 (fun m v6 v8 wr => ∃ e : Int, v6 = .int .i64 e ∧ FA K w0 g neg N M wr e ∧ 1030 ≤ e + m)
  case atStart => exact ⟨0, rfl, H0.out, by omega⟩
  case round =>
    clear H0 hdp1 hdp2
    obtain ⟨e, rfl, HF, hem⟩ := hrel
    have he0 := HF.e0
    have he1 := HF.e1
    have hxl := HF.xl
    obtain ⟨c, ds, dp, tr, hD, hc, hd1, hd2⟩ := HF.ex
    have hcp := hD.dpc
    have HD := Hd.mk hD
    have HFF := Hd.mk HF
    have HXL := Hd.mk hxl
    by_cases hp : 0 < dp
    · have hpb : decide ((0 : Int) < dp) = true := decide_eq_true hp
      have he3 : e < 1030 := FA.small hD hM hp HN.out
      obtain ⟨m, rfl⟩ : ∃ m, gk = m + 1 := ⟨gk - 1, by omega⟩
      obtain ⟨Q, o, cq, hQw, h13, hc9, hQ⟩ := (hG.below hD.bel).ptab
      clear hD HF hxl
      have HQ := Hd.mk hQ
      clear hQ
      go_wp2
      go_upto_region 13 with (fail)
      go_quiet (fail)
      by_cases h9 : 9 ≤ dp
      · have h9b : decide ((9 : Int) ≤ dp) = true := decide_eq_true h9
        have HCL : Hd (∀ n, Calls Tryz.prog 120 #[.pointer (some ⟨g, 0, none⟩), .int .i64 (-27)] (wr.drewN n) fun r w' => r = .returned (.tuple #[]) ∧ ∃ ds' dp' tr', Dst K w0 g neg N M w' (c + 1) ds' dp' (e + (27 : Nat)) tr' ∧ dp - 20 ≤ dp' ∧ dp' ≤ dp) := ⟨fun n =>
          (shR (k := 27) (HD.out.drewN n) hK hM (by omega) (by omega) (by omega) (by omega) (.inr (Nat.le_trans (ge_one HD.out.vd (by omega)) (Nat.le_mul_of_pos_right _ (Nat.two_pow_pos _))))).mono (by
            rintro r w' ⟨e1, ds', dp', tr', e2, e3, e4, e5⟩; exact ⟨e1, ds', dp', tr', e2, e4, e5⟩)⟩
        go_wp2_with (go_at_call 120; ((with_reducible refine (HCL.out _).mono ?_); rintro r w' ⟨rfl, ds', dp', tr', q1, q2, q3⟩))
        have HQ' := Hd.mk (And.intro q1 (And.intro q2 q3))
        clear q1 q2 q3
        go_wp2
        go_roundg m
        case measure => omega
        case rel => exact ⟨e + 27, rfl, FA.step (k := 27) HD.out hc hd1 hd2 he0 he3 hp (by omega) (by omega) HQ'.out.1 HQ'.out.2.1 HQ'.out.2.2, by omega⟩
      · have h9b : decide ((9 : Int) ≤ dp) = false := decide_eq_false h9
        obtain ⟨i, rfl⟩ := Int.eq_ofNat_of_zero_le (Int.le_of_lt hp)
        have hi9 : i < 9 := by omega
        obtain ⟨p1, p2, p3, p4⟩ := ptb_get hi9
        have hqi := HQ.out i hi9
        obtain ⟨k, hk⟩ : ∃ k, k = ptb.getD i 0 := ⟨_, rfl⟩
        rw [← hk] at hqi p1 p2
        clear hk p3 p4
        have hi0 : (0 : Int) ≤ (i : Int) := by omega
        have hi9' : (i : Int) < 9 := by omega
        have HCL : Hd (∀ n, Calls Tryz.prog 120 #[.pointer (some ⟨g, 0, none⟩), .int .i64 (-(k : Int))] (wr.drewN n) fun r w' => r = .returned (.tuple #[]) ∧ ∃ ds' dp' tr', Dst K w0 g neg N M w' (c + 1) ds' dp' (e + (k : Nat)) tr' ∧ (i : Int) - 20 ≤ dp' ∧ dp' ≤ i) := ⟨fun n =>
          (shR (k := k) (HD.out.drewN n) hK hM p1 (by omega) (by omega) (by omega) (.inr (Nat.le_trans (ge_one HD.out.vd (by omega)) (Nat.le_mul_of_pos_right _ (Nat.two_pow_pos _))))).mono (by
            rintro r w' ⟨e1, ds', dp', tr', e2, e3, e4, e5⟩; exact ⟨e1, ds', dp', tr', e2, e4, e5⟩)⟩
        go_wp2_with fail
        go_quiet (fail)
        go_wp2_with (go_at_call 120; ((with_reducible refine (HCL.out _).mono ?_); rintro r w' ⟨rfl, ds', dp', tr', q1, q2, q3⟩))
        have HQ' := Hd.mk (And.intro q1 (And.intro q2 q3))
        clear q1 q2 q3
        go_wp2
        go_roundg m
        case measure => omega
        case rel => exact ⟨e + k, rfl, FA.step (k := k) HD.out hc hd1 hd2 he0 he3 hp p1 (by omega) HQ'.out.1 HQ'.out.2.1 HQ'.out.2.2, by omega⟩
    · have hpb : decide ((0 : Int) < dp) = false := decide_eq_false hp
      have HFB : Hd (FB K w0 g neg N M wr e) := by
        exact ⟨⟨⟨c, ds, dp, tr, hD, by omega, by omega, by omega⟩, by omega, he1, hxl⟩⟩
      clear hD HF hxl HXL HFF HD hc hd1 hd2
      go_wp2
      clear hcp hp hpb hem he0 he1
      go_loopg [6, 9] (e + 1100).toNat (fun m v6 v9 wr => ∃ e : Int, v6 = .int .i64 e ∧ FB K w0 g neg N M wr e ∧ e + 1100 = m)
      case atStart => exact ⟨e, rfl, HFB.out, by have := HFB.out.e0; omega⟩
      case round =>
        clear HFB
        obtain ⟨e, rfl, HF, hem⟩ := hrel
        have he0 := HF.e0
        have he1 := HF.e1
        have hxl := HF.xl
        obtain ⟨c, ds, dp, tr, hD, hc, hd1, hd2⟩ := HF.ex
        have hcp := hD.dpc
        have hc0 := hD.d0
        have hd9 := hD.vd.dig 0
        have HD := Hd.mk hD
        have HXL := Hd.mk hxl
        obtain ⟨Q, o, cq, hQw, h13, hc9, hQ⟩ := (hG.below hD.bel).ptab
        have HQ := Hd.mk hQ
        obtain ⟨x, hx⟩ : ∃ x, x = 48 + dg ds 0 := ⟨_, rfl⟩
        rw [← hx] at hc0
        have HXX := Hd.mk hx
        clear hQ hD HF hxl hx
        by_cases hgo : dp < 0 ∨ (dp = 0 ∧ dg ds 0 < 5)
        · by_cases h9 : 9 ≤ -dp
          · have hlt := FB.lt (k := 27) HD.out (.inl ⟨by omega, Nat.le_trans (show 2 ^ 27 ≤ 10 ^ 9 by decide) (Nat.pow_le_pow_right (by omega) (by omega))⟩)
            have h9b : decide ((9 : Int) ≤ -dp) = true := decide_eq_true h9
            have hng : decide (dp < 0) = true := decide_eq_true (by omega)
            have HCL : Hd (∀ n, Calls Tryz.prog 120 #[.pointer (some ⟨g, 0, none⟩), .int .i64 27] (wr.drewN n) fun r w' => r = .returned (.tuple #[]) ∧ ∃ e', e' = e - (27 : Nat) ∧ FB K w0 g neg N M w' e' ∧ e' < e ∧ -1100 ≤ e') := ⟨fun n =>
              (shL (k := 27) (HD.out.drewN n) hG hK hM (by omega) (by omega) (by omega) (by omega) (FB.big HD.out hK hM (by omega) HXL.out)).mono (by
                rintro r w' ⟨e1, ds', dp', tr', e2, e3, e4, e5⟩; exact ⟨e1, _, rfl, FB.step HD.out hK hM hc he0 he1 hd2 HXL.out HX.out hlt (by omega) (by omega) e2 e3 e4⟩)⟩
            clear hlt
            go_wp2
            go_upto_region 20 with (fail)
            go_quiet (fail)
            go_wp2_with (go_at_call 120; ((with_reducible refine (HCL.out _).mono ?_); rintro r w' ⟨rfl, e', rfl, q1, q2, q3⟩))
            have HQ' := Hd.mk (And.intro q1 (And.intro q2 q3))
            clear q1 q2 q3
            go_wp2
            obtain ⟨q1, q2, q3⟩ := HQ'.out
            go_roundg (e - 27 + 1100).toNat
            case measure => omega
            case rel => exact ⟨e - 27, rfl, q1, by omega⟩
          · rcases Int.lt_or_le dp 0 with hn0 | hn0
            · obtain ⟨i, hdi⟩ : ∃ i : Nat, -dp = (i : Int) := ⟨(-dp).toNat, by omega⟩
              have hi9 : i < 9 := by omega
              obtain ⟨p1, p2, p3, p4⟩ := ptb_get hi9
              have hqi := HQ.out i hi9
              have hlt := FB.lt (k := ptb.getD i 0) HD.out (.inl ⟨hn0, by rw [show (-dp).toNat = i by omega]; exact p3 (by omega)⟩)
              obtain ⟨k, hk⟩ : ∃ k, k = ptb.getD i 0 := ⟨_, rfl⟩
              rw [← hk] at hqi p1 p2 hlt
              clear hk p3 p4
              have hi0 : (0 : Int) ≤ (i : Int) := by omega
              have hi9' : (i : Int) < 9 := by omega
              have h9b : decide ((9 : Int) ≤ (i : Int)) = false := decide_eq_false (by omega)
              have hng : decide (dp < 0) = true := decide_eq_true (by omega)
              have HCL : Hd (∀ n, Calls Tryz.prog 120 #[.pointer (some ⟨g, 0, none⟩), .int .i64 (k : Int)] (wr.drewN n) fun r w' => r = .returned (.tuple #[]) ∧ ∃ e', e' = e - (k : Nat) ∧ FB K w0 g neg N M w' e' ∧ e' < e ∧ -1100 ≤ e') := ⟨fun n =>
                (shL (k := k) (HD.out.drewN n) hG hK hM p1 (by omega) (by omega) (by omega) (FB.big HD.out hK hM (by omega) HXL.out)).mono (by
                  rintro r w' ⟨e1, ds', dp', tr', e2, e3, e4, e5⟩; exact ⟨e1, _, rfl, FB.step HD.out hK hM hc he0 he1 hd2 HXL.out HX.out hlt p1 (by omega) e2 e3 e4⟩)⟩
              clear hlt
              go_wp2
              go_upto_region 20 with (fail)
              go_quiet (fail)
              go_wp2_with fail
              go_quiet (fail)
              go_wp2_with (go_at_call 120; ((with_reducible refine (HCL.out _).mono ?_); rintro r w' ⟨rfl, e', rfl, q1, q2, q3⟩))
              have HQ' := Hd.mk (And.intro q1 (And.intro q2 q3))
              clear q1 q2 q3
              go_wp2
              obtain ⟨q1, q2, q3⟩ := HQ'.out
              go_roundg (e - k + 1100).toNat
              case measure => omega
              case rel => exact ⟨e - k, rfl, q1, by omega⟩
            · obtain rfl : dp = 0 := by omega
              have h5 : dg ds 0 < 5 := by omega
              have hqi := HQ.out 0 (by omega)
              rw [show ptb.getD 0 0 = 1 from rfl, Nat.add_zero] at hqi
              have hlt := FB.lt (k := 1) HD.out (.inr ⟨rfl, h5, rfl⟩)
              have hx5 : decide ((x : Int) < 53) = true := decide_eq_true (by have := HXX.out; omega)
              have HCL : Hd (∀ n, Calls Tryz.prog 120 #[.pointer (some ⟨g, 0, none⟩), .int .i64 1] (wr.drewN n) fun r w' => r = .returned (.tuple #[]) ∧ ∃ e', e' = e - (1 : Nat) ∧ FB K w0 g neg N M w' e' ∧ e' < e ∧ -1100 ≤ e') := ⟨fun n =>
                (shL (k := 1) (HD.out.drewN n) hG hK hM (by omega) (by omega) (by omega) (by omega) (FB.big HD.out hK hM (by omega) HXL.out)).mono (by
                  rintro r w' ⟨e1, ds', dp', tr', e2, e3, e4, e5⟩; exact ⟨e1, _, rfl, FB.step HD.out hK hM hc he0 he1 hd2 HXL.out HX.out hlt (by omega) (by omega) e2 e3 e4⟩)⟩
              clear hlt h5 hgo h9 hn0
              go_wp2
              go_upto_region 20 with (fail)
              go_quiet (fail)
              go_wp2_with fail
              go_quiet (fail)
              go_wp2_with (go_at_call 120; ((with_reducible refine (HCL.out _).mono ?_); rintro r w' ⟨rfl, e', rfl, q1, q2, q3⟩))
              have HQ' := Hd.mk (And.intro q1 (And.intro q2 q3))
              clear q1 q2 q3
              go_wp2
              obtain ⟨q1, q2, q3⟩ := HQ'.out
              go_roundg (e - 1 + 1100).toNat
              case measure => omega
              case rel => exact ⟨e - 1, rfl, q1, by omega⟩
        · have hd0 : dp = 0 := by omega
          subst hd0
          have h5 : ¬ dg ds 0 < 5 := by omega
          have hx5 : decide ((x : Int) < 53) = false := decide_eq_false (by have := HXX.out; omega)
          have HMID : Hd (vn ds 0 < vd ds 0 ∧ vd ds 0 ≤ vn ds 0 * 2) := ⟨lt_one HD.out.vd (by omega), ge_half HD.out.vd (by omega)⟩
          clear hgo h5
          have hGw := hG.below HD.out.bel
          have hf0 := hGw.fi0
          have hf1 := hGw.fi1
          have hf2 := hGw.fi2
          clear hGw
          go_upto_if 111 with (fail)
          clear hQw h13 hc9 HQ hx5 HXX hd9 hd1 hd2 hc0
          go_cut [6] from 105 to 125 (fun v6 wc => ∃ E : Int, v6 = .int .i64 E ∧ FC K w0 g neg N M wc e E)
          case first =>
            by_cases hsub : e < -1021
            · obtain ⟨n, hn⟩ : ∃ n : Nat, -1022 - (e - 1) = (n : Int) := ⟨(-1022 - (e - 1)).toNat, by omega⟩
              have hsb : decide (e - 1 < -1022) = true := decide_eq_true (by omega)
              rcases Nat.lt_or_ge 60 n with hn6 | hn6
              · obtain ⟨k, rfl⟩ : ∃ k, n = 60 + k := ⟨n - 60, by omega⟩
                have hn' : -1022 - (e - 1) = 60 + (k : Int) := by omega
                have HCL : Hd (Calls Tryz.prog 120 #[.pointer (some ⟨g, 0, none⟩), .int .i64 (-(60 + (k : Int)))] wr fun r w' => r = .returned (.tuple #[]) ∧ FC K w0 g neg N M w' e (-1022)) := ⟨
                  (shR2 (k := k) HD.out hK hM (by omega) (by omega) (by omega) (by omega) (by omega)).mono (by
                    rintro r w' ⟨e1, ds', dp', tr', e2, e3, e4⟩
                    exact ⟨e1, ⟨c + 2, ds', dp', tr', by rw [show (-1022 : Int) + 1 = e + 60 + k by omega]; exact e2, by omega, by omega, by omega, .inl (by omega)⟩, .inr ⟨rfl, hsub⟩⟩)⟩
                clear hn
                go_wp2_with (go_at_call 120; ((with_reducible refine (HCL.out).mono ?_); rintro r w' ⟨rfl, q1⟩))
                have HQ' := Hd.mk q1
                clear q1
                go_wp2
                go_meet
                exact ⟨-1022, by first | rfl | exact congrArg (Value.int .i64) (by omega), HQ'.out⟩
              · have HCL : Hd (Calls Tryz.prog 120 #[.pointer (some ⟨g, 0, none⟩), .int .i64 (-(n : Int))] wr fun r w' => r = .returned (.tuple #[]) ∧ FC K w0 g neg N M w' e (-1022)) := ⟨
                  (shR (k := n) HD.out hK hM (by omega) (by omega) (by omega) (by omega) (.inl (by omega))).mono (by
                    rintro r w' ⟨e1, ds', dp', tr', e2, e3, e4, e5⟩
                    exact ⟨e1, ⟨c + 1, ds', dp', tr', by rw [show (-1022 : Int) + 1 = e + n by omega]; exact e2, by omega, by omega, by omega, .inl (by omega)⟩, .inr ⟨rfl, hsub⟩⟩)⟩
                go_wp2_with (go_at_call 120; ((with_reducible refine (HCL.out).mono ?_); rintro r w' ⟨rfl, q1⟩))
                have HQ' := Hd.mk q1
                clear q1
                go_wp2
                go_meet
                exact ⟨-1022, by first | rfl | exact congrArg (Value.int .i64) (by omega), HQ'.out⟩
            · have hsb : decide (e - 1 < -1022) = false := decide_eq_false (by omega)
              have HF : Hd (FC K w0 g neg N M wr e (e - 1)) := ⟨⟨⟨c, ds, 0, tr, by rw [Int.sub_add_cancel]; exact HD.out, by omega, by omega, by omega, .inr (Nat.le_trans HMID.out.2 (Nat.mul_le_mul_left _ (by decide)))⟩, .inl ⟨rfl, by omega⟩⟩⟩
              go_wp2
              go_meet
              exact ⟨e - 1, rfl, HF.out⟩
          case rest =>
            obtain ⟨E, rfl, hF⟩ := hcut
            have heE := hF.eE
            obtain ⟨c2, ds2, dp2, tr2, hD2, hc2, hd1, hd2, hbig⟩ := hF.ex
            have HD2 := Hd.mk hD2
            have hcn2 := hD2.nd
            have hGw := hG.below hD2.bel
            have hf0' := hGw.fi0
            have hf1' := hGw.fi1
            have hf2' := hGw.fi2
            have hng2 : wc.cell? ⟨g, 802, none⟩ = some (.bool neg) := by obtain ⟨f, hr, hd⟩ := hD2.dm.ex; exact hr.cng
            clear hF hD2 hGw hf0 hf1 hf2 hcp
            have hE1 : -1022 ≤ E := by omega
            have hE2 : E ≤ 1060 := by omega
            go_upto_region 30 with (fail)
            go_quiet (fail)
            have HRES : Hd (E < 1024 → ∀ w' ds3 dp3 tr3, Dst K w0 g neg N M w' (c2 + 1) ds3 dp3 (E + 1 - (53 : Nat)) tr3 → rung N M = min ((E + 1022).toNat * C + mantT ds3 tr3 dp3) infR ∧ mantT ds3 tr3 dp3 ≤ D ∧ (E = -1022 ∨ C ≤ mantT ds3 tr3 dp3) ∧ dp3 ≤ 16) := ⟨fun _ w' ds3 dp3 tr3 h3 =>
              fin_T hK hM HGP.out HD.out.ap (vd_pos _ _) (by omega) HMID.out.1 HMID.out.2 heE (by rw [show E - 52 = E + 1 - ((53 : Nat) : Int) by omega]; exact h3.ap) (by omega) h3.vd (h3.last.resolve_left (by omega))⟩
            by_cases hov : 1024 ≤ E
            · have hob : decide ((2047 : Int) ≤ E + 1023) = true := decide_eq_true (by omega)
              have HR : Hd (rung N M = infR) := ⟨over_T (E := E) hM HD.out.ap (vd_pos _ _) HMID.out.2 (by omega)⟩
              have HBL := Hd.mk HD2.out.bel
              go_wp2
              go_step3
              change ∃ rest, findLabel c' _ = some rest ∧ _
              refine ⟨_, by rw [HC'.out]; rfl, ?_⟩
              go_wp2
              have t1 := fb1
              have t2 := fb2
              have t3 := fb3
              have t4 := fb4
              go_quiet (fail)
              go_wp2
              go_step3
              go_wp2
              go_quiet (fail)
              cases neg
              case true =>
                go_wp2
                go_quiet (fail)
                go_wp2
                rw [Exit.noGoto_ret]
                go_ret2
                exact ⟨fbv_inf HR.out rfl, below_drewN (below_drewN HBL.out _) _⟩
              case false =>
                go_wp2
                rw [Exit.noGoto_ret]
                go_ret2
                exact ⟨fbv_inf HR.out rfl, below_drewN HBL.out _⟩
            · have hob : decide ((2047 : Int) ≤ E + 1023) = false := decide_eq_false (by omega)
              have HBL := Hd.mk HD2.out.bel
              have HCL : Hd (∀ n, Calls Tryz.prog 120 #[.pointer (some ⟨g, 0, none⟩), .int .i64 53] (wc.drewN n) fun r w' => r = .returned (.tuple #[]) ∧ ∃ ds' dp' tr', Dst K w0 g neg N M w' (c2 + 1) ds' dp' (E + 1 - (53 : Nat)) tr' ∧ -40 ≤ dp') := ⟨fun n =>
                (shL (k := 53) (HD2.out.drewN n) hG hK hM (by omega) (by omega) (by omega) (by omega) (by rcases hbig with h | h; exact .inl (by omega); exact .inr h)).mono (by
                  rintro r w' ⟨e1, ds', dp', tr', e2, e3, e4, e5⟩; exact ⟨e1, ds', dp', tr', e2, by omega⟩)⟩
              go_wp2_with (go_at_call 120; ((with_reducible refine (HCL.out _).mono ?_); rintro r w3 ⟨rfl, ds3, dp3, tr3, q1, q2⟩))
              obtain ⟨r1, r2, r3, r4⟩ := HRES.out (by omega) w3 ds3 dp3 tr3 q1
              obtain ⟨f3, hr3, hd3⟩ := q1.dm.ex
              have hng3 := hr3.cng
              have hG3 := hG.below q1.bel
              have hf0 := hG3.fi0
              have hf1 := hG3.fi1
              have hf2 := hG3.fi2
              obtain ⟨m, hm⟩ : ∃ m, m = mantT ds3 tr3 dp3 := ⟨_, rfl⟩
              have hmt : ((mantT ds3 tr3 dp3 : Nat) : Int) = (m : Int) := by rw [hm]
              rw [← hm] at r1 r2 r3
              have HB3 := Hd.mk q1.bel
              have HR1 := Hd.mk r1
              have hRI := rint_any g f3 ds3 dp3 neg tr3 w3 hr3 hd3 q1.dm.le q1.dm.dig (by omega) (by omega)
              rw [hmt] at hRI
              have HM := Hd.mk (And.intro r2 r3)
              clear hr3 hd3 hG3 q1 hm hmt r1 r2 r3 hf0' hf1' hf2' hng2 hcn2 HCL HRES
              (with_reducible refine hRI.mono ?_)
              rintro r w4 ⟨rfl, rfl⟩
              have hC : C = 4503599627370496 := rfl
              have hDD : D = 9007199254740992 := rfl
              obtain ⟨s1, s2⟩ := HM.out
              rw [hDD] at s1
              rw [hC] at s2
              clear hC hDD HM hRI
              by_cases hmax : m = 9007199254740992
              · have hmb : ((m : Int) == 9007199254740992) = true := beq_iff_eq.2 (by omega)
                have hdiv : (m : Int) / 2 = 4503599627370496 := by omega
                have t0 := fb5
                have t6 := fb6
                by_cases hov2 : 1023 ≤ E
                · have hE3 : E = 1023 := by omega
                  have hRI : Hd (rung N M = infR) := ⟨by rw [HR1.out, hE3, hmax]; rfl⟩
                  have hob2 : decide ((2047 : Int) ≤ E + 1 + 1023) = true := decide_eq_true (by omega)
                  have t1 := fb1
                  have t2 := fb2
                  have t3 := fb3
                  have t4 := fb4
                  clear hmax hE3
                  go_wp2
                  go_quiet (fail)
                  go_wp2
                  go_step3
                  change ∃ rest, findLabel c' _ = some rest ∧ _
                  refine ⟨_, by rw [HC'.out]; rfl, ?_⟩
                  go_wp2
                  go_quiet (fail)
                  go_wp2
                  go_step3
                  go_wp2
                  go_quiet (fail)
                  cases neg
                  case true =>
                    go_wp2
                    go_quiet (fail)
                    go_wp2
                    rw [Exit.noGoto_ret]
                    go_ret2
                    exact ⟨fbv_inf hRI.out rfl, by first | exact below_drewN (below_drewN (below_drewN HB3.out _) _) _ | exact below_drewN (below_drewN HB3.out _) _⟩
                  case false =>
                    go_wp2
                    rw [Exit.noGoto_ret]
                    go_ret2
                    exact ⟨fbv_inf hRI.out rfl, by first | exact below_drewN (below_drewN HB3.out _) _ | exact below_drewN HB3.out _⟩
                · obtain ⟨k, hk⟩ : ∃ k : Nat, E + 1 + 1023 = (k : Int) := ⟨(E + 1 + 1023).toNat, by omega⟩
                  have hk2 : k ≤ 2046 := by omega
                  have hob2 : decide ((2047 : Int) ≤ (k : Int)) = false := decide_eq_false (by omega)
                  have ha := and2047 (k := k) (by omega)
                  obtain ⟨X, hXe⟩ : ∃ X, X = k * 4503599627370496 := ⟨_, rfl⟩
                  have HXR : Hd (rung N M = min X infR ∧ X < 9218868437227405312) := ⟨⟨by rw [HR1.out, hmax, show C = 4503599627370496 from rfl]; congr 1; omega, by omega⟩⟩
                  have hw : (k : Int) * 4503599627370496 = (X : Int) := by omega
                  have ho : bits .or .u64 0 (X : Int) = (X : Int) := by
                    have := u64_or52 (a := 0) (b := k) (by omega) (by omega)
                    rw [hw] at this
                    rw [show ((0 : Nat) : Int) = 0 from rfl] at this
                    rw [this]; omega
                  have hs := or_sgn63 (n := X) (by omega)
                  have hX9 : X < 9218868437227405312 := by omega
                  clear hmax hXe
                  go_wp2
                  go_quiet (fail)
                  go_wp2
                  go_step3
                  change ∃ rest, findLabel c' _ = some rest ∧ _
                  refine ⟨_, by rw [HC'.out]; rfl, ?_⟩
                  go_wp2
                  go_quiet (fail)
                  cases neg
                  case true =>
                    go_wp2
                    go_quiet (fail)
                    go_wp2
                    rw [Exit.noGoto_ret]
                    go_ret2
                    exact ⟨fbv_fin HXR.out.1 HXR.out.2 (by first | exact sgn_f _ | rfl), by first | exact below_drewN (below_drewN (below_drewN HB3.out _) _) _ | exact below_drewN (below_drewN HB3.out _) _⟩
                  case false =>
                    go_wp2
                    rw [Exit.noGoto_ret]
                    go_ret2
                    exact ⟨fbv_fin HXR.out.1 HXR.out.2 (by first | exact sgn_f _ | rfl), by first | exact below_drewN (below_drewN HB3.out _) _ | exact below_drewN HB3.out _⟩
              · have hmb : ((m : Int) == 9007199254740992) = false := beq_eq_false_iff_ne.2 (by omega)
                rcases Nat.lt_or_ge m 4503599627370496 with hlo | hlo
                · have hE3 : E = -1022 := by omega
                  have ha : bits .and .i64 0 2047 = 0 := and2047 (k := 0) (by omega)
                  have hE4 := Hd.mk hE3
                  have ht := u64_bit52_lo hlo
                  have hl5 := u64_low52 hlo
                  have ho := u64_or0 hlo
                  have HXR : Hd (rung N M = min m infR ∧ m < 9218868437227405312) := ⟨⟨by rw [HR1.out, hE3]; congr 1; show 0 * C + m = m; omega, by omega⟩⟩
                  have hs := or_sgn63 (n := m) (by omega)
                  have hm9 : m < 9218868437227405312 := by omega
                  clear hE3
                  go_wp2
                  go_step3
                  change ∃ rest, findLabel c' _ = some rest ∧ _
                  refine ⟨_, by rw [HC'.out]; rfl, ?_⟩
                  go_wp2
                  go_quiet (fail)
                  cases neg
                  case true =>
                    go_wp2
                    go_quiet (fail)
                    go_wp2
                    rw [Exit.noGoto_ret]
                    go_ret2
                    exact ⟨fbv_fin HXR.out.1 HXR.out.2 (by first | exact sgn_f _ | rfl), by first | exact below_drewN (below_drewN (below_drewN HB3.out _) _) _ | exact below_drewN (below_drewN HB3.out _) _⟩
                  case false =>
                    go_wp2
                    rw [Exit.noGoto_ret]
                    go_ret2
                    exact ⟨fbv_fin HXR.out.1 HXR.out.2 (by first | exact sgn_f _ | rfl), by first | exact below_drewN (below_drewN HB3.out _) _ | exact below_drewN HB3.out _⟩
                · obtain ⟨k, hk⟩ : ∃ k : Nat, E + 1023 = (k : Int) := ⟨(E + 1023).toNat, by omega⟩
                  have hk2 : k ≤ 2046 := by omega
                  have ha := and2047 (k := k) (by omega)
                  have hm2 : m < 9007199254740992 := by omega
                  have ht := u64_bit52_hi hlo hm2
                  have hl5 := u64_low52' hlo hm2
                  obtain ⟨r, hr⟩ : ∃ r, r = m - 4503599627370496 := ⟨_, rfl⟩
                  rw [← hr] at hl5
                  obtain ⟨X, hXe⟩ : ∃ X, X = k * 4503599627370496 + r := ⟨_, rfl⟩
                  obtain ⟨Y, hYe⟩ : ∃ Y, Y = k * 4503599627370496 := ⟨_, rfl⟩
                  have HXR : Hd (rung N M = min X infR ∧ X < 9218868437227405312) := ⟨⟨by rw [HR1.out, show C = 4503599627370496 from rfl]; congr 1; omega, by omega⟩⟩
                  have hw : (k : Int) * 4503599627370496 = (Y : Int) := by omega
                  have ho : bits .or .u64 (r : Int) (Y : Int) = (X : Int) := by
                    have := u64_or52 (a := r) (b := k) (by omega) (by omega)
                    rw [hw] at this
                    rw [this]; omega
                  have hs := or_sgn63 (n := X) (by omega)
                  have hX9 : X < 9218868437227405312 := by omega
                  have hY9 : Y < 9218868437227405312 := by omega
                  have hr9 : r < 4503599627370496 := by omega
                  clear hmax hXe hYe hr
                  go_wp2
                  go_step3
                  change ∃ rest, findLabel c' _ = some rest ∧ _
                  refine ⟨_, by rw [HC'.out]; rfl, ?_⟩
                  go_wp2
                  go_quiet (fail)
                  cases neg
                  case true =>
                    go_wp2
                    go_quiet (fail)
                    go_wp2
                    rw [Exit.noGoto_ret]
                    go_ret2
                    exact ⟨fbv_fin HXR.out.1 HXR.out.2 (by first | exact sgn_f _ | rfl), by first | exact below_drewN (below_drewN (below_drewN HB3.out _) _) _ | exact below_drewN (below_drewN HB3.out _) _⟩
                  case false =>
                    go_wp2
                    rw [Exit.noGoto_ret]
                    go_ret2
                    exact ⟨fbv_fin HXR.out.1 HXR.out.2 (by first | exact sgn_f _ | rfl), by first | exact below_drewN (below_drewN HB3.out _) _ | exact below_drewN HB3.out _⟩
end Go.Proofs.YtknjgopapbemcaaGreatDoor
