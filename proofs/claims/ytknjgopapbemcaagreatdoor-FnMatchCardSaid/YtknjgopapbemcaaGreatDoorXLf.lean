/- Lf: joined by merge.py for the claim. -/
import Derived.Test.YtknjgopapbemcaaGreatDoorXLcLe
import Derived.Test.YtknjgopapbemcaaGreatDoorXMaMf
import Derived.Test.YtknjgopapbemcaaGreatDoorXMgMh
import Derived.Test.YtknjgopapbemcaaGreatDoorXBaBb
/- Walk of lightstrconv's bits. -/
namespace Go.Proofs.YtknjgopapbemcaaGreatDoor
open Go.RowKit
set_option linter.unusedVariables false
set_option linter.unusedSimpArgs false

/-- The form of 64 bits. -/
def form64 : Array Value := #[.int .i64 52, .int .i64 11, .int .i64 (-1023)]

structure Fm (w : World) (F : Nat) : Prop where
  c0 : w.cell? ⟨F, 0, none⟩ = some (.int .i64 52)
  c1 : w.cell? ⟨F, 1, none⟩ = some (.int .i64 11)
  c2 : w.cell? ⟨F, 2, none⟩ = some (.int .i64 (-1023))
  lt : F < w.heap.size
theorem Fm.bel {w w' : World} {F g : Nat} (h : Fm w F) (hb : Bel g w w') (hg : F ≠ g) : Fm w' F :=
  ⟨by rw [hb.cell h.lt hg]; exact h.c0, by rw [hb.cell h.lt hg]; exact h.c1, by rw [hb.cell h.lt hg]; exact h.c2, Nat.lt_of_lt_of_le h.lt hb.size⟩

theorem bits_start {w w1 : World} {g nq : Nat} {ds : List Nat} {dp : Int} (hd : Dc w g ds dp)
    (hw : World.drewN (World.alloc w (.cells #[.int .i64 52, .int .i64 11, .int .i64 (-1023)] 131)) nq = w1) : Dc w1 g ds dp ∧ Fm w1 w.heap.size ∧ Bel g w w1 ∧ w.heap.size ≠ g := by
  have hB : Below w.heap.size w w1 := by rw [← hw]; exact below_drewN ((Below.refl _ _).alloc (Nat.le_refl _) _) _
  obtain ⟨b, n0, c, hg, hb, hc, hn, hcell⟩ := hd.ex
  have hgl := lt_of_block hg
  refine ⟨⟨b, n0, c, by rw [hB.block g hgl]; exact hg, hb, hc, hn, fun i hi => by rw [hB.cell (World.block_lt_of_cell? w ⟨b, i, none⟩ (hcell i hi))]; exact hcell i hi⟩, ?_, Bel.of_below hB, by omega⟩
  subst hw
  refine ⟨?_, ?_, ?_, by simp [heap_drewN]⟩ <;> rw [cell_drewN, World.cell?_alloc_at _ _ _ _ rfl] <;> rfl

theorem Gd.wideD {L : Nat} {D D' : Int} {ds : List Nat} {dp : Int} (h : Gd L D ds dp) (hD : D ≤ D') : Gd L D' ds dp := ⟨h.vd, by have := h.lo; omega, by have := h.hi; omega, h.last⟩
def kB : Nat := 1100
theorem kB_eq : kB = 1100 := rfl
structure AInv (L g F N M : Nat) (w1 wr : World) (m : Nat) (e : Int) : Prop where
  ex : ∃ ds dp, Dc wr g ds dp ∧ Gd (L + 2 * e.toNat) (100000 + 20 * e) ds dp ∧ Val ds dp e N M ∧ vn ds dp < 2 ^ m * vd ds dp ∧ vd ds dp ≤ vn ds dp * 2 ^ kB
  e0 : 0 ≤ e
  em : e + m ≤ 1030 ∨ (m = 0 ∧ e ≤ 1089)
  bel : Bel g w1 wr
  fm : Fm wr F
theorem bits_startA {L g F N M : Nat} {w1 : World} {ds : List Nat} {dp : Int} (hd : Dc w1 g ds dp) (h : Gd L 100000 ds dp) (hv : Val ds dp 0 N M) (hf : Fm w1 F) (h1 : -330 ≤ dp) (h2 : dp ≤ 310) {m : Nat} (hm : m = 1030) :
    AInv L g F N M w1 w1 m 0 :=
  ⟨⟨ds, dp, hd, (h.wide (by omega)).wideD (by omega), hv, start_lt h h2 hm, start_ge h h1 kB_eq⟩, by omega, by omega, Bel.refl _ _, hf⟩

theorem stepA_pos {L m : Nat} {ds : List Nat} {dp : Int} (h : Vd L ds) (hdp : 0 < dp) (hlt : vn ds dp < 2 ^ m * vd ds dp) : 1 ≤ m := by
  have := ge_one h (dp := dp) (by omega)
  rcases Nat.eq_zero_or_pos m with rfl | h
  · rw [Nat.pow_zero] at hlt; omega
  · exact h
theorem AInv.step {L g F N M m k : Nat} {w1 wr w2 : World} {e : Int} {ds : List Nat} {dp : Int} (hg : Gd (L + 2 * e.toNat) (100000 + 20 * e) ds dp) (hv : Val ds dp e N M) (hlt : vn ds dp < 2 ^ (m + 1) * vd ds dp)
    (hb : Bel g w1 wr) (hf : Fm wr F) (hFg : F ≠ g) (he0 : 0 ≤ e) (hem : e + ((m + 1 : Nat) : Int) ≤ 1030 ∨ (m + 1 = 0 ∧ e ≤ 1089)) (hdp : 0 < dp) (hk1 : 1 ≤ k) (hk2 : k ≤ 59) (hL : L ≤ 5100)
    (hd2 : Dc w2 g (halfD k ds) (halfP k ds dp)) (hb2 : Bel g wr w2) (hg2 : Gd (L + 2 * e.toNat + k + 1) (100000 + 20 * e + 20) (halfD k ds) (halfP k ds dp)) :
    AInv L g F N M w1 w2 (m + 1 - k) (e + k) := by
  have hs := half_frac hg.vd (by omega) hk1 hk2 dp
  refine ⟨⟨_, _, hd2, ⟨hg2.vd.wide (by omega), by have := hg2.lo; omega, by have := hg2.hi; omega, hg2.last⟩, val_half hg.vd (by omega) hk1 hk2 hv, stepA (vd_pos _ _) (vd_pos _ _) hs hlt, ?_⟩, by omega, by omega, hb.trans hb2, hf.bel hb2 hFg⟩
  refine Nat.le_trans (stepA_lo (vd_pos _ _) hs (ge_one hg.vd (by omega))) (Nat.mul_le_mul_left _ (two_pow_le (by unfold kB; omega)))

structure BInv (g F N M : Nat) (w1 wr : World) (m : Nat) (e : Int) : Prop where
  ex : ∃ ds dp, Dc wr g ds dp ∧ Gd (7300 + 19 * (1100 - m)) (140000 + 20 * (1100 - (m : Int))) ds dp ∧ Val ds dp e N M ∧ dp ≤ 0 ∧ vd ds dp ≤ vn ds dp * 2 ^ m
  m11 : m ≤ 1100
  em : -1100 ≤ e - m
  e1 : e ≤ 1089
  bel : Bel g w1 wr
  fm : Fm wr F
theorem bits_startB {L g F N M m : Nat} {w1 wr : World} {e : Int} {ds : List Nat} {dp : Int} (hd : Dc wr g ds dp) (hg : Gd (L + 2 * e.toNat) (100000 + 20 * e) ds dp) (hv : Val ds dp e N M)
    (hge : vd ds dp ≤ vn ds dp * 2 ^ kB) (he0 : 0 ≤ e) (hem : e + (m : Int) ≤ 1030 ∨ (m = 0 ∧ e ≤ 1089)) (hb : Bel g w1 wr) (hf : Fm wr F) (hdp : dp ≤ 0) (hL : L ≤ 5100) : BInv g F N M w1 wr kB e :=
  ⟨⟨ds, dp, hd, ⟨hg.vd.wide (by omega), by have := hg.lo; have := kB_eq; omega, by have := hg.hi; have := kB_eq; omega, hg.last⟩, hv, hdp, hge⟩, by have := kB_eq; omega, by have := kB_eq; omega, by omega, hb, hf⟩
theorem not_ge {L : Nat} {ds : List Nat} {dp : Int} (h : Vd L ds) (hlt : vn ds dp < vd ds dp) : dp ≤ 0 := by
  rcases Int.lt_or_le 0 dp with h1 | h1
  · have := ge_one h (dp := dp) (by omega); omega
  · exact h1
theorem stepB_dp {L k : Nat} {D : Int} {ds : List Nat} {dp : Int} (hg : Gd L D ds dp) (hneg : dp < 0) (hk : (k : Int) ≤ -3 * dp) (hk2 : k ≤ 59) (hL : L ≤ 39000) :
    vn (dblD k ds) (dblP k ds dp) < vd (dblD k ds) (dblP k ds dp) := by
  refine stepB_lt (vd_pos _ _) (vd_pos _ _) (dbl_frac hg.vd (by omega) hk2 dp) ?_
  have h1 := lt_ten hg.vd (-dp).toNat (dp := dp) (by omega)
  have h2 : 2 ^ k ≤ 10 ^ (-dp).toNat := Nat.le_trans (two_pow_le (by omega)) (pow_le_pow10 (-dp).toNat)
  exact Nat.lt_of_le_of_lt (Nat.mul_le_mul_left _ h2) h1
theorem stepB_five {L : Nat} {D : Int} {ds : List Nat} (hg : Gd L D ds 0) (h5 : dg ds 0 < 5) (hL : L ≤ 39000 := by omega) :
    vn (dblD 1 ds) (dblP 1 ds 0) < vd (dblD 1 ds) (dblP 1 ds 0) :=
  stepB_lt (vd_pos _ _) (vd_pos _ _) (dbl_frac hg.vd (by omega) (by omega) 0) (lt_half hg.vd h5)
theorem stepB_m {L k m : Nat} {D : Int} {ds : List Nat} {dp : Int} (hg : Gd L D ds dp) (hge : vd ds dp ≤ vn ds dp * 2 ^ m) (hlt : vn (dblD k ds) (dblP k ds dp) < vd (dblD k ds) (dblP k ds dp)) (hk2 : k ≤ 59) (hL : L ≤ 39000) : k < m :=
  (stepB (vd_pos _ _) (dbl_frac hg.vd (by omega) hk2 dp) hge hlt).1
theorem BInv.step {g F N M m k : Nat} {w1 wr w2 : World} {e : Int} {ds : List Nat} {dp : Int} (hg : Gd (7300 + 19 * (1100 - m)) (140000 + 20 * (1100 - (m : Int))) ds dp) (hv : Val ds dp e N M) (hge : vd ds dp ≤ vn ds dp * 2 ^ m)
    (hb : Bel g w1 wr) (hf : Fm wr F) (hFg : F ≠ g) (hem : -1100 ≤ e - m) (he1 : e ≤ 1089) (hm : m ≤ 1100) (hlt : vn (dblD k ds) (dblP k ds dp) < vd (dblD k ds) (dblP k ds dp)) (hk1 : 1 ≤ k) (hk2 : k ≤ 59)
    (hd2 : Dc w2 g (dblD k ds) (dblP k ds dp)) (hb2 : Bel g wr w2) (hg2 : Gd (7300 + 19 * (1100 - m) + 19) (140000 + 20 * (1100 - (m : Int)) + 20) (dblD k ds) (dblP k ds dp)) :
    BInv g F N M w1 w2 (m - k) (e - k) := by
  obtain ⟨h1, h2⟩ := stepB (vd_pos _ _) (dbl_frac hg.vd (by omega) hk2 dp) hge hlt
  exact ⟨⟨_, _, hd2, ⟨hg2.vd.wide (by omega), by have := hg2.lo; omega, by have := hg2.hi; omega, hg2.last⟩, val_dbl hg.vd (by omega) hk2 hv, not_ge hg2.vd hlt, h2⟩, by omega, by omega, by omega, hb.trans hb2, hf.bel hb2 hFg⟩

structure Mid (N M : Nat) (e : Int) : Prop where
  ex : ∃ ds L, Vd L ds ∧ Val ds 0 e N M ∧ vn ds 0 < vd ds 0 ∧ vd ds 0 ≤ vn ds 0 * 2
theorem bits_mid {L N M : Nat} {D e : Int} {ds : List Nat} (hg : Gd L D ds 0) (hv : Val ds 0 e N M) (h5 : ¬ dg ds 0 < 5) : Mid N M e :=
  ⟨ds, L, hg.vd, hv, lt_one hg.vd (by omega), ge_half hg.vd (by omega)⟩
structure CInv (g F N M : Nat) (w1 wr : World) (e E : Int) : Prop where
  ex : ∃ ds dp, Dc wr g ds dp ∧ Gd 33200 170000 ds dp ∧ Val ds dp (E + 1) N M
  eE : (E = e - 1 ∧ -1021 ≤ e) ∨ (E = -1022 ∧ e < -1021)
  bel : Bel g w1 wr
  fm : Fm wr F

theorem CInv.shifted {g F N M : Nat} {w1 wr w2 : World} {e : Int} {ds : List Nat} (hd : Dc wr g ds 0) (hg : Gd 28200 165000 ds 0) (hv : Val ds 0 e N M) (hb : Bel g w1 wr) (hf : Fm wr F) (hFg : F ≠ g)
    (hk : 0 < -1022 - (e - 1)) {m : Nat} (hem : -1100 ≤ e - (m : Int)) (hd2 : Dc w2 g (shf 40 (-(-1022 - (e - 1))) ds 0).1 (shf 40 (-(-1022 - (e - 1))) ds 0).2) (hb2 : Bel g wr w2)
    (hg2 : Gd (28200 + 5000) (165000 + 2000) (shf 40 (-(-1022 - (e - 1))) ds 0).1 (shf 40 (-(-1022 - (e - 1))) ds 0).2) : CInv g F N M w1 w2 e (-1022) := by
  have h1 := val_shf 40 (-(-1022 - (e - 1))) 28200 ds 0 e hg.vd (by omega) (by omega) (by omega) hv
  rw [show e - -(-1022 - (e - 1)) = -1022 + 1 by omega] at h1
  exact ⟨⟨_, _, hd2, (hg2.wide (by omega)).wideD (by omega), h1⟩, by omega, hb.trans hb2, hf.bel hb2 hFg⟩

theorem bits_over {N M : Nat} {e E : Int} (h : Mid N M e) (hM : 0 < M) (heE : (E = e - 1 ∧ -1021 ≤ e) ∨ (E = -1022 ∧ e < -1021)) (hE : 1024 ≤ E) : rung N M = infR := by
  obtain ⟨ds, L, h1, h2, h3, h4⟩ := h.ex
  exact mid_over h2 h4 hM (by omega)

structure Last (N M : Nat) (E : Int) (ds3 : List Nat) (dp3 : Int) : Prop where
  eq : rung N M = min ((E + 1022).toNat * C + mantOf ds3 dp3) infR
  le : mantOf ds3 dp3 ≤ D
  ge : E = -1022 ∨ C ≤ mantOf ds3 dp3
  dp : dp3 ≤ 16
theorem bits_last {N M : Nat} {e E : Int} {ds2 : List Nat} {dp2 : Int} (h : Mid N M e) (hM : 0 < M) (hv : Val ds2 dp2 (E + 1) N M) (hg : Gd 33200 170000 ds2 dp2) (heE : (E = e - 1 ∧ -1021 ≤ e) ∨ (E = -1022 ∧ e < -1021))
    (hg3 : Gd (33200 + 5000) (170000 + 2000) (shf 40 53 ds2 dp2).1 (shf 40 53 ds2 dp2).2) : Last N M E (shf 40 53 ds2 dp2).1 (shf 40 53 ds2 dp2).2 := by
  obtain ⟨ds, L, h1, h2, h3, h4⟩ := h.ex
  have hv3 := val_shf 40 53 33200 ds2 dp2 (E + 1) hg.vd (by omega) (by omega) (by omega) hv
  have he3 : E + 1 - 53 = E - 52 := by omega
  rw [he3] at hv3
  obtain ⟨a, b, c, d⟩ := bits_fin hM h2 h3 h4 hv3 hg3.vd hg3.last (by omega)
  rw [show E - 52 + 1074 = E + 1022 by omega] at a
  exact ⟨a, b, by omega, d⟩

theorem whole_calls {L g : Nat} {D : Int} {ds : List Nat} {dp : Int} {w : World} (hd : Dc w g ds dp) (h : Gd L D ds dp) (h16 : dp ≤ 16) (hL : L ≤ 90000) (hD : D ≤ 900000) :
    Calls Tryz.prog 89 #[.pointer (some ⟨g, 0, none⟩)] w fun e w' => e = .returned (.int .u64 (mantOf ds dp : Nat)) ∧ ∃ q, w' = w.drewN q := by
  unfold mantOf
  by_cases hn : dp < 0
  · rw [if_pos hn]
    exact (whole_neg hd hn (by have := h.lo; omega)).mono fun e w' ⟨h1, h2⟩ => ⟨h1, 0, h2.symm⟩
  · rw [if_neg hn]
    obtain ⟨n, rfl⟩ := Int.eq_ofNat_of_zero_le (show 0 ≤ dp by omega)
    exact whole_any hd (by have := h.vd.le; omega) h.vd.dig (by omega)

theorem bits_top1 {N M mt : Nat} (h : rung N M = min (((1023 : Int) + 1022).toNat * C + mt) infR) (hm : mt = 9007199254740992) : rung N M = infR := by
  rw [h, hm]; rfl
theorem ret_pair {a b : Int} {x y : Bool} (h : a = b) (h2 : x = y) : Ending.returned (.tuple #[.int .u64 a, .bool x]) = .returned (.tuple #[.int .u64 b, .bool y]) := by rw [h, h2]
theorem min_infR {a : Nat} (h : a < 9218868437227405312) : min a infR = a ∧ decide (min a infR = infR) = false := by
  have e : infR = 9218868437227405312 := rfl
  rw [e, Nat.min_eq_left (by omega)]
  exact ⟨rfl, by simp; omega⟩
theorem bits_ret1 {N M mt b : Nat} (h : rung N M = min ((((b : Int) - 1024) + 1022).toNat * C + mt) infR) (hm : mt = 9007199254740992) (hb1 : 2 ≤ b) (hb2 : b ≤ 2046) :
    Ending.returned (.tuple #[.int .u64 ((b : Int) * 4503599627370496), .bool false]) = .returned (.tuple #[.int .u64 (rung N M : Nat), .bool (decide (rung N M = infR))]) := by
  have e : (((b : Int) - 1024) + 1022).toNat * C + mt = b * 4503599627370496 := by
    have : C = 4503599627370496 := rfl
    obtain ⟨q, rfl⟩ : ∃ q, b = q + 2 := ⟨b - 2, by omega⟩
    rw [this, hm, show ((((q + 2 : Nat) : Int) - 1024) + 1022).toNat = q by omega]; omega
  obtain ⟨h1, h2⟩ := min_infR (a := b * 4503599627370496) (by omega)
  rw [h, e]
  exact ret_pair (by rw [h1]; omega) h2.symm
theorem bits_ret2 {N M mt : Nat} (h : rung N M = min (((-1022 : Int) + 1022).toNat * C + mt) infR) (hm : mt < 4503599627370496) :
    Ending.returned (.tuple #[.int .u64 (mt : Int), .bool false]) = .returned (.tuple #[.int .u64 (rung N M : Nat), .bool (decide (rung N M = infR))]) := by
  have e : ((-1022 : Int) + 1022).toNat * C + mt = mt := by rw [show ((-1022 : Int) + 1022).toNat = 0 by rfl]; omega
  obtain ⟨h1, h2⟩ := min_infR (a := mt) (by omega)
  rw [h, e]
  exact ret_pair (by rw [h1]) h2.symm
theorem bits_ret3 {N M mt b lo : Nat} (h : rung N M = min ((((b : Int) - 1023) + 1022).toNat * C + mt) infR) (hlo : lo = mt - 4503599627370496) (hm : 4503599627370496 ≤ mt) (hm2 : mt < 9007199254740992) (hb1 : 1 ≤ b) (hb2 : b ≤ 2046) :
    Ending.returned (.tuple #[.int .u64 ((b * 4503599627370496 + lo : Nat) : Int), .bool false]) = .returned (.tuple #[.int .u64 (rung N M : Nat), .bool (decide (rung N M = infR))]) := by
  have e : (((b : Int) - 1023) + 1022).toNat * C + mt = b * 4503599627370496 + lo := by
    have : C = 4503599627370496 := rfl
    obtain ⟨q, rfl⟩ : ∃ q, b = q + 1 := ⟨b - 1, by omega⟩
    rw [this, hlo, show ((((q + 1 : Nat) : Int) - 1023) + 1022).toNat = q by omega]; omega
  obtain ⟨h1, h2⟩ := min_infR (a := b * 4503599627370496 + lo) (by omega)
  rw [h, e]
  exact ret_pair (by rw [h1]) h2.symm

set_option maxHeartbeats 1000000 in
set_option maxRecDepth 100000 in
theorem bits_any {L g : Nat} {ds : List Nat} {dp : Int} {w : World} {N M : Nat} (hd : Dc w g ds dp) (h : Gd L 300000 ds dp) (hL : L ≤ 5100) (hM : 0 < M) (hv : Val ds dp 0 N M) :
    Calls Tryz.prog 70 #[.pointer (some ⟨g, 0, none⟩), .agg #[.int .i64 52, .int .i64 11, .int .i64 (-1023)]] w fun e w' =>
      e = .returned (.tuple #[.int .u64 (rung N M : Nat), .bool (decide (rung N M = infR))]) ∧ Bel g w w' := by
  have HD := Hd.mk hd
  have HV := Hd.mk hv
  have HH := Hd.mk h
  have hl0 := h.vd.pos
  have hlo := h.lo
  have hhi := h.hi
  clear hd hv h
  go_enter Tryz.func70, Tryz.ntmps70
  go_wp2_with fail
  have hF0 : (w.alloc (.cells #[.int .i64 52, .int .i64 11, .int .i64 (-1023)] 131)).cell? ⟨w.heap.size, 0, none⟩ = some (.int .i64 52) := by
    rw [World.cell?_alloc_at _ _ _ _ rfl]; rfl
  have hF1 : (w.alloc (.cells #[.int .i64 52, .int .i64 11, .int .i64 (-1023)] 131)).cell? ⟨w.heap.size, 1, none⟩ = some (.int .i64 11) := by
    rw [World.cell?_alloc_at _ _ _ _ rfl]; rfl
  go_quiet (fail)
  generalize hw1 : World.drewN (World.alloc w (Obj.cells #[Value.int IntKind.i64 52, Value.int IntKind.i64 11, Value.int IntKind.i64 (-1023)] 131)) nq = w1
  obtain ⟨hd1, hf1, hb1, hFg⟩ := bits_start HD.out hw1
  obtain ⟨F, hF⟩ : ∃ F, F = w.heap.size := ⟨_, rfl⟩
  rw [← hF] at hf1 hFg ⊢
  have HB1 := Hd.mk hb1
  have HF1 := Hd.mk hf1
  clear hw1 hF0 hF1 hb1 HD hF
  have HD := Hd.mk hd1
  obtain ⟨b, n0, c, hg, hb, hc, hn, hcell⟩ := hd1.ex
  subst hn
  have hc0 := at_c0 hg
  have hc1 := at_c1 hg
  have hcf0 := hf1.c0
  clear hd1 hcell hg hf1
  have hlb : ((ds.length : Int) == 0) = false := by simp; intro e; rw [e] at hl0; simp at hl0
  by_cases hsm : dp < -330
  · have hsb : decide (dp < (-330 : Int)) = true := by simpa using hsm
    go_wp2_with fail
    go_ret2
    exact ⟨by rw [bits_small hM HH.out HV.out hsm]; rfl, HB1.out⟩
  · have hsb : decide (dp < (-330 : Int)) = false := by simpa using hsm
    by_cases hgr : 310 < dp
    · have hgb : decide ((310 : Int) < dp) = true := by simpa using hgr
      go_wp2_with fail
      go_ret2
      exact ⟨by rw [bits_great hM HH.out HV.out hgr]; rfl, HB1.out⟩
    · have hgb : decide ((310 : Int) < dp) = false := by simpa using hgr
      have HH2 : Hd (Gd L 100000 ds dp) := ⟨⟨HH.out.vd, by omega, by omega, HH.out.last⟩⟩
      have H0 := bits_startA HD.out HH2.out HV.out HF1.out (by omega) (by omega) (m := 1030) rfl
      go_wp2_with fail
      clear HD HV HH HH2 HF1 hc0 hc1 hcf0
      go_loopg [7] 1030 (fun m v7 wr => ∃ e : Int, v7 = .int .i64 e ∧ AInv L g F N M w1 wr m e)
      case atStart => exact ⟨0, rfl, H0⟩
      case round =>
        clear H0
        obtain ⟨e, rfl, HA⟩ := hrel
        obtain ⟨ds1, dp1, hd, hg, hv, hlt, hge⟩ := HA.ex
        have he0 := HA.e0
        have hem := HA.em
        have hfm := HA.fm
        have hb := HA.bel
        clear HA
        obtain ⟨b1, _, c1, hh1, _, _, _, _⟩ := hd.ex
        have hc1 := at_c1 hh1
        clear hh1
        have hdlo := hg.lo
        have hdhi := hg.hi
        by_cases hdp : 0 < dp1
        · have hdb : decide ((0 : Int) < dp1) = true := by simpa using hdp
          have HD := Hd.mk hd
          have HG := Hd.mk hg
          have HV := Hd.mk hv
          have HL := Hd.mk hlt
          have HG2 := Hd.mk hge
          have HFm := Hd.mk hfm
          have HB := Hd.mk hb
          clear hd hg hv hlt hge hfm hb
          have hm := stepA_pos HG.out.vd hdp HL.out
          obtain ⟨m, rfl⟩ : ∃ m, gk = m + 1 := ⟨gk - 1, by omega⟩
          by_cases h19 : 20 ≤ dp1
          · go_wp2_with fail
            refine (half_calls (k := 59) HD.out HG.out (by omega) (by omega) (by omega) (by omega)).mono ?_
            rintro e' w' ⟨rfl, hd', hb', hg'⟩
            go_wp2
            go_roundg (m + 1 - 59)
            case measure => omega
            case rel => exact ⟨e + 59, rfl, AInv.step (k := 59) HG.out HV.out HL.out HB.out HFm.out hFg he0 hem hdp (by omega) (by omega) (by omega) hd' hb' hg'⟩
          · obtain ⟨k, hk⟩ : ∃ k : Nat, 3 * dp1 = (k : Int) := ⟨(3 * dp1).toNat, by omega⟩
            have hk1 : 1 ≤ k := by omega
            have hk2 : k ≤ 57 := by omega
            go_wp2_with fail
            refine (half_calls (k := k) HD.out HG.out (by omega) (by omega) (by omega) (by omega)).mono ?_
            rintro e' w' ⟨rfl, hd', hb', hg'⟩
            go_wp2
            go_roundg (m + 1 - k)
            case measure => omega
            case rel => exact ⟨e + k, rfl, AInv.step HG.out HV.out HL.out HB.out HFm.out hFg he0 hem hdp (by omega) (by omega) (by omega) hd' hb' hg'⟩
        · have hdb : decide ((0 : Int) < dp1) = false := by simpa using hdp
          have H1 := bits_startB (L := L) hd hg hv hge he0 hem hb hfm (by omega) hL
          clear hd hg hv hlt hge he0 hem hfm hb hdlo hdhi
          go_wp2_with fail
          clear hc1
          go_loopg [7] kB (fun m v7 wr => ∃ e : Int, v7 = .int .i64 e ∧ BInv g F N M w1 wr m e)
          case atStart => exact ⟨e, rfl, H1⟩
          case round =>
            clear H1 hdp hdb
            obtain ⟨e, rfl, HA⟩ := hrel
            obtain ⟨ds1, dp1, hd, hg, hv, hdp, hge⟩ := HA.ex
            have hm11 := HA.m11
            have hem := HA.em
            have he1 := HA.e1
            have hfm := HA.fm
            have hb := HA.bel
            clear HA
            obtain ⟨b1, _, c1, hh1, _, hcc, hnn, hcl⟩ := hd.ex
            subst hnn
            have hc0 := at_c0 hh1
            have hc1 := at_c1 hh1
            have hl1 := hg.vd.pos
            have hcd := hcl 0 hl1
            clear hh1 hcl
            have hdlo := hg.lo
            have HD := Hd.mk hd
            have HG := Hd.mk hg
            have HV := Hd.mk hv
            have HG2 := Hd.mk hge
            have HFm := Hd.mk hfm
            have HB := Hd.mk hb
            clear hd hg hv hge hfm hb
            by_cases hneg : dp1 < 0
            · have hnb : decide (dp1 < (0 : Int)) = true := by simpa using hneg
              by_cases h19 : dp1 ≤ -20
              · have hlt := stepB_dp (k := 59) HG.out hneg (by omega) (by omega) (by omega)
                have hkm := stepB_m (k := 59) HG.out HG2.out hlt (by omega) (by omega)
                go_wp2_with fail
                refine (double_calls (k := 59) HD.out HG.out (by omega) (by omega) (by omega) (by omega)).mono ?_
                rintro e' w' ⟨rfl, hd', hb', hg'⟩
                go_wp2
                go_roundg (gk - 59)
                case measure => omega
                case rel => exact ⟨e - 59, rfl, BInv.step (k := 59) HG.out HV.out HG2.out HB.out HFm.out hFg hem he1 hm11 hlt (by omega) (by omega) hd' hb' hg'⟩
              · obtain ⟨k, hk⟩ : ∃ k : Nat, -3 * dp1 = (k : Int) := ⟨(-3 * dp1).toNat, by omega⟩
                have hk1 : 1 ≤ k := by omega
                have hk2 : k ≤ 57 := by omega
                have hlt := stepB_dp (k := k) HG.out hneg (by omega) (by omega) (by omega)
                have hkm := stepB_m (k := k) HG.out HG2.out hlt (by omega) (by omega)
                go_wp2_with fail
                refine (double_calls (k := k) HD.out HG.out (by omega) (by omega) (by omega) (by omega)).mono ?_
                rintro e' w' ⟨rfl, hd', hb', hg'⟩
                go_wp2
                go_roundg (gk - k)
                case measure => omega
                case rel => exact ⟨e - k, rfl, BInv.step (k := k) HG.out HV.out HG2.out HB.out HFm.out hFg hem he1 hm11 hlt (by omega) (by omega) hd' hb' hg'⟩
            · obtain rfl : dp1 = 0 := by omega
              by_cases h5 : dg ds1 0 < 5
              · have hlt := stepB_five HG.out h5
                have hkm := stepB_m (k := 1) HG.out HG2.out hlt (by omega) (by omega)
                go_wp2_with fail
                refine (double_calls (k := 1) HD.out HG.out (by omega) (by omega) (by omega) (by omega)).mono ?_
                rintro e' w' ⟨rfl, hd', hb', hg'⟩
                go_wp2
                go_roundg (gk - 1)
                case measure => omega
                case rel => exact ⟨e - 1, rfl, BInv.step (k := 1) HG.out HV.out HG2.out HB.out HFm.out hFg hem he1 hm11 hlt (by omega) (by omega) hd' hb' hg'⟩
              · have hfc := HFm.out.c2
                have HF0 := Hd.mk (bits_mid HG.out HV.out h5)
                have hgL := HG.out.wide (L' := 28200) (by omega)
                have hgL2 := Hd.mk (hgL.wideD (D' := 165000) (by omega))
                clear hgL
                go_upto_if 96 with (fail)
                clear HG HG2 hcd hc0 hc1 hl1 hdlo hdp
                go_cut [7, 10] (fun v7 v10 wc => ∃ E : Int, v7 = .int .i64 E ∧ CInv g F N M w1 wc e E)
                case first =>
                  by_cases hk : (0 : Int) < -1022 - (e - 1)
                  · have hkb : decide ((0 : Int) < -1022 - (e - 1)) = true := by simpa using hk
                    go_wp2_with fail
                    refine (shift_any HD.out hgL2.out (by omega) (by omega) (by omega) (by omega)).mono ?_
                    rintro e' w' ⟨rfl, hd', hb', hg'⟩
                    go_wp2
                    go_meet
                    case rel => exact ⟨-1022, by go_num, CInv.shifted HD.out hgL2.out HV.out HB.out HFm.out hFg hk hem hd' hb' hg'⟩
                  · have hkb : decide ((0 : Int) < -1022 - (e - 1)) = false := by simpa using hk
                    go_wp2_with fail
                    go_meet
                    case rel => exact ⟨e - 1, rfl, ⟨⟨ds1, 0, HD.out, (hgL2.out.wide (by omega)).wideD (by omega), by rw [Int.sub_add_cancel]; exact HV.out⟩, by omega, HB.out, HFm.out⟩⟩
                case rest =>
                  clear HD HV HB HFm hgL2 hfc
                  obtain ⟨E, rfl, HC⟩ := hcut
                  obtain ⟨ds2, dp2, hd, hg, hv⟩ := HC.ex
                  have heE := HC.eE
                  have hf0 := HC.fm.c0
                  have hf1 := HC.fm.c1
                  have hf2 := HC.fm.c2
                  have HD := Hd.mk hd
                  have HG := Hd.mk hg
                  have HV := Hd.mk hv
                  have HFm := Hd.mk HC.fm
                  have HB := Hd.mk HC.bel
                  clear HC hd hg hv
                  by_cases hinf : 1024 ≤ E
                  · have hib : decide ((2047 : Int) ≤ E - -1023) = true := by simp; omega
                    go_wp2_with fail
                    go_quiet (fail)
                    go_wp2_with fail
                    go_ret2
                    exact ⟨by rw [bits_over HF0.out hM heE hinf]; rfl, (HB1.out.trans HB.out).drewN _⟩
                  · have hib : decide ((2047 : Int) ≤ E - -1023) = false := by simp; omega
                    go_wp2_with fail
                    go_quiet (fail)
                    go_wp2_with fail
                    refine (shift_any (k := 53) (HD.out.drewN _) HG.out (by omega) (by omega) (by omega) (by omega)).mono ?_
                    rintro e' w3 ⟨rfl, hd', hb', hg'⟩
                    have HQ := Hd.mk (bits_last HF0.out hM HV.out HG.out heE hg')
                    obtain ⟨ds3, hds3⟩ : ∃ x, x = (shf 40 53 ds2 dp2).1 := ⟨_, rfl⟩
                    obtain ⟨dp3, hdp3⟩ : ∃ x, x = (shf 40 53 ds2 dp2).2 := ⟨_, rfl⟩
                    rw [← hds3, ← hdp3] at hd' hg' HQ
                    have HB3 := Hd.mk ((HB1.out.trans HB.out).trans (((Bel.refl _ _).drewN _).trans hb'))
                    have HF3 := HFm.out.bel (((Bel.refl _ _).drewN _).trans hb') hFg
                    have hf0' := HF3.c0
                    have hf1' := HF3.c1
                    have hf2' := HF3.c2
                    have HD3 := Hd.mk hd'
                    have HG3 := Hd.mk hg'
                    have HF3' := Hd.mk HF3
                    clear hds3 hdp3 HD HG HV HFm HB hf0 hf1 hf2 hb' hd' hg' HF3
                    go_wp2_with fail
                    refine (whole_calls HD3.out HG3.out HQ.out.dp (by omega) (by omega)).mono ?_
                    rintro e' w4 ⟨rfl, q4, rfl⟩
                    obtain ⟨mt, hmt⟩ : ∃ mt, mt = mantOf ds3 dp3 := ⟨_, rfl⟩
                    rw [← hmt]
                    have HQ2 := Hd.mk (show rung N M = min ((E + 1022).toNat * C + mt) infR ∧ (E = -1022 ∨ C ≤ mt) by rw [hmt]; exact ⟨HQ.out.eq, HQ.out.ge⟩)
                    have hle : mt ≤ 9007199254740992 := by rw [hmt]; exact HQ.out.le
                    clear hmt HQ HD3 HG3
                    by_cases htop : mt = 9007199254740992
                    · have htb : ((mt : Int) == 9007199254740992) = true := by simp; omega
                      by_cases h23 : E = 1023
                      · subst h23
                        go_wp2_with fail
                        go_quiet (fail)
                        go_wp2_with fail
                        go_ret2
                        exact ⟨by rw [bits_top1 HQ2.out.1 htop]; rfl, (HB3.out.drewN _).drewN _⟩
                      · obtain ⟨b, hb⟩ : ∃ b : Nat, E + 1024 = (b : Int) := ⟨(E + 1024).toNat, by omega⟩
                        obtain rfl : E = (b : Int) - 1024 := by omega
                        have hb1 : 2 ≤ b := by omega
                        have hb2 : b ≤ 2046 := by omega
                        have hlow : bits .and .u64 4503599627370496 4503599627370495 = 0 := u64_low52' (n := 4503599627370496) (by omega) (by omega)
                        have hor : bits .or .u64 0 (((b : Int) - 1024 + 1 + 1023) * 4503599627370496) = (b : Int) * 4503599627370496 := by
                          rw [show (b : Int) - 1024 + 1 + 1023 = b by omega]
                          have := u64_or52 (a := 0) (b := b) (by omega) (by omega)
                          rw [show ((0 : Nat) : Int) = 0 by rfl] at this
                          rw [this]; omega
                        clear heE
                        go_wp2_with fail
                        go_quiet (fail)
                        go_wp2_with fail
                        go_quiet (fail)
                        go_wp2_with fail
                        go_ret2
                        exact ⟨bits_ret1 HQ2.out.1 htop hb1 hb2, (HB3.out.drewN _).drewN _⟩
                    · have htb : ((mt : Int) == 9007199254740992) = false := by simp; omega
                      by_cases hsub : mt < 4503599627370496
                      · have hand := u64_bit52_lo hsub
                        obtain rfl : E = -1022 := by have := HQ2.out.2; have : C = 4503599627370496 := rfl; omega
                        have hlow := u64_low52 hsub
                        have hor := u64_or0 hsub
                        go_wp2_with fail
                        go_quiet (fail)
                        go_wp2_with fail
                        go_ret2
                        exact ⟨bits_ret2 HQ2.out.1 hsub, (HB3.out.drewN _).drewN _⟩
                      · have hmt1 : 4503599627370496 ≤ mt := by omega
                        have hmt2 : mt < 9007199254740992 := by omega
                        have hand := u64_bit52_hi hmt1 hmt2
                        have hlow := u64_low52' hmt1 hmt2
                        obtain ⟨b, hb⟩ : ∃ b : Nat, E + 1023 = (b : Int) := ⟨(E + 1023).toNat, by omega⟩
                        obtain rfl : E = (b : Int) - 1023 := by omega
                        have hb1 : 1 ≤ b := by omega
                        have hb2 : b ≤ 2046 := by omega
                        have hor := u64_or52 (a := mt - 4503599627370496) (b := b) (by omega) (by omega)
                        obtain ⟨lo, hlo2⟩ : ∃ lo, lo = mt - 4503599627370496 := ⟨_, rfl⟩
                        rw [← hlo2] at hlow hor
                        have HLO := Hd.mk hlo2
                        clear heE hlo2 hb
                        go_wp2_with fail
                        go_quiet (fail)
                        go_wp2_with fail
                        go_ret2
                        exact ⟨bits_ret3 HQ2.out.1 HLO.out hmt1 hmt2 hb1 hb2, (HB3.out.drewN _).drewN _⟩
set_option maxHeartbeats 1000000 in
set_option maxRecDepth 100000 in
theorem bits_zero {g c : Nat} {A : Option Addr} {dp : Int} {w : World} (hg : w.heap[g]? = some (.cells #[.slice A 0 c, .int .i64 dp] 151 (0, 0))) :
    Calls Tryz.prog 70 #[.pointer (some ⟨g, 0, none⟩), .agg #[.int .i64 52, .int .i64 11, .int .i64 (-1023)]] w fun e w' =>
      e = .returned (.tuple #[.int .u64 0, .bool false]) ∧ Bel g w w' := by
  have hB : Hd (∀ n, Bel g w (World.drewN (World.alloc w (Obj.cells #[Value.int IntKind.i64 52, Value.int IntKind.i64 11, Value.int IntKind.i64 (-1023)] 131)) n)) :=
    ⟨fun n => (Bel.of_below ((Below.refl _ _).alloc (Nat.le_refl _) _)).drewN n⟩
  have hlt := lt_of_block hg
  have hg1 : (w.alloc (.cells #[.int .i64 52, .int .i64 11, .int .i64 (-1023)] 131)).heap[g]? = some (.cells #[.slice A 0 c, .int .i64 dp] 151 (0, 0)) := by
    rw [← hg]; exact ((Below.refl _ _).alloc (Nat.le_refl _) _).block g hlt
  clear hg
  go_enter Tryz.func70, Tryz.ntmps70
  go_wp2_with fail
  have hF0 : (w.alloc (.cells #[.int .i64 52, .int .i64 11, .int .i64 (-1023)] 131)).cell? ⟨w.heap.size, 0, none⟩ = some (.int .i64 52) := by
    rw [World.cell?_alloc_at _ _ _ _ rfl]; rfl
  have hF1 : (w.alloc (.cells #[.int .i64 52, .int .i64 11, .int .i64 (-1023)] 131)).cell? ⟨w.heap.size, 1, none⟩ = some (.int .i64 11) := by
    rw [World.cell?_alloc_at _ _ _ _ rfl]; rfl
  go_quiet (fail)
  have hc0 := at_c0 hg1
  go_wp2_with fail
  go_ret2
  exact ⟨rfl, hB.out _⟩
end Go.Proofs.YtknjgopapbemcaaGreatDoor
